/- spec.LabelsText 26. -/
import Derived.Test.YtbkookiigkckdaaGreatDoorK22
import Derived.Test.YtbkookiigkckdaaGreatDoorK25
import Derived.Laws.Concat
namespace Go.Proofs.YtbkookiigkckdaaGreatDoor
open Go.RowKit
set_option linter.unusedVariables false
set_option linter.unusedSimpArgs false

theorem nums_back (x : ByteArray) : (nums x).map (fun n => UInt8.ofNat n.toNat) = x.data.toList := by
  unfold nums
  rw [List.map_map]
  exact (List.map_congr_left (fun b _ => by simp)).trans (List.map_id _)
theorem text_step0 (l : List Lab) (k : Nat) (hk : k = 0) (x : Lab) (a : ByteArray) (h0 : l[k]? = some x) (ha : a = strOfNums (123 :: bodyN l k)) : a ++ (x.1 ++ ⟨#[61, 34]⟩ ++ x.2 ++ ⟨#[34]⟩) = strOfNums (123 :: bodyN l (k + 1)) := by
  subst ha
  have e : bodyN l (k + 1) = bodyN l k ++ ([] ++ labN x) := by rw [bodyN, getD_of h0, if_pos hk]
  rw [e]
  apply ByteArray.ext
  apply Array.ext'
  rw [strOfNums_data]
  simp [strOfNums_data, labN, nums_back]
theorem text_step (l : List Lab) (k : Nat) (hk : 0 < k) (x : Lab) (a : ByteArray) (h0 : l[k]? = some x) (ha : a = strOfNums (123 :: bodyN l k)) : a ++ ⟨#[44, 32]⟩ ++ (x.1 ++ ⟨#[61, 34]⟩ ++ x.2 ++ ⟨#[34]⟩) = strOfNums (123 :: bodyN l (k + 1)) := by
  subst ha
  apply ByteArray.ext
  apply Array.ext'
  rw [strOfNums_data, bodyN, getD_of h0, if_neg (by omega)]
  simp [strOfNums_data, labN, nums_back]
theorem text_end (l : List Lab) (a : ByteArray) (ha : a = strOfNums (123 :: bodyN l l.length)) : a ++ ⟨#[125]⟩ = strOfNums (textN l) := by
  subst ha
  apply ByteArray.ext
  apply Array.ext'
  rw [strOfNums_data]
  simp [strOfNums_data, textN]
theorem text_start (l : List Lab) : (⟨#[123]⟩ : ByteArray) = strOfNums (123 :: bodyN l 0) := by
  apply ByteArray.ext
  apply Array.ext'
  rw [strOfNums_data]
  simp [bodyN]

def TextEnds (l : List Lab) (w : World) (r : Ending) (w' : World) : Prop := r = .returned (.string (strOfNums (textN l))) ∧ Fr (fun _ => False) w w'

set_option maxRecDepth 100000 in
set_option maxHeartbeats 4000000 in
theorem labelsText_any (P : Nat → Prop) (v : Value) (l : List Lab) (w : World) (h : Sl P w v 2 l.length (l.flatMap labc)) (hl : l.length ≤ 12) (hs : ∀ p ∈ l, p.1.size ≤ 600 ∧ p.2.size ≤ 600) : Calls Tryz.prog 26 #[v] w (TextEnds l w) := by
  have mixed : Tryz.prog.follows .mixedOrders = true := by kernel_rfl
  obtain ⟨A, c, rfl, hlen, hnc, hr⟩ := h
  obtain ⟨n, hn⟩ : ∃ n, l.length = n := ⟨_, rfl⟩
  rw [hn] at hr hnc hl ⊢
  have HN := Lib.hid hn
  have HSZ := Lib.hid hs
  clear hs
  have HR := Lib.hid hr
  clear hn hr hlen
  go_enter Tryz.func26, Tryz.ntmps26
  go_wp2
  go_loopw [3, 4] (fun vs vi wr => ∃ (k : Nat) (a : ByteArray), vi = .int .i64 k ∧ vs = .string a ∧ k ≤ n ∧ a.size ≤ 1 + k * 1300 ∧ Hid (a = strOfNums (123 :: bodyN l k)) ∧ Hid (Fr (fun _ => False) w wr)) (fun _ vi _ => n - (intOf vi).toNat)
  case atStart => exact ⟨0, _, rfl, rfl, Nat.zero_le _, by decide, Lib.hid (text_start l), Lib.hid (Fr.refl _ _)⟩
  case round =>
    obtain ⟨k, a, rfl, rfl, hk, hsz, HA, HF⟩ := hrel
    by_cases hlt : k < n
    · obtain ⟨g, off, rfl, _, hcell⟩ := HR.out (by omega)
      obtain ⟨x, hx⟩ : ∃ x, l[k]? = some x := ⟨_, List.getElem?_eq_getElem (by rw [HN.out]; exact hlt)⟩
      have cc : ∀ j, j < 2 → ∀ u, (labc x)[j]? = some u → wr.cell? ⟨g, off + (k * 2 + j), none⟩ = some u := fun j hj u hu => by
        have := hcell (k * 2 + j) u (by rw [flat2 labc (fun _ => rfl) l k x hx j hj]; exact hu)
        rw [HF.out.cell (p := ⟨g, off + (k * 2 + j), none⟩) (World.block_lt_of_cell? w _ this) (fun e => e)]
        exact this
      have c0 : wr.cell? ⟨g, off + k * 2, none⟩ = some (.string x.1) := cc 0 (by omega) _ rfl
      have c1 : wr.cell? ⟨g, off + k * 2 + 1, none⟩ = some (.string x.2) := cc 1 (by omega) _ rfl
      have hk1 : (0 : Int) ≤ (k : Int) := by omega
      have hk2 : (k : Int) < (n : Int) := by omega
      have hn4 : (n : Int) ≤ 12 := by omega
      obtain ⟨hx1, hx2⟩ := HSZ.out x (List.mem_of_getElem? hx)
      have hsz2 : a.size ≤ 20000 := by omega
      have e2 : (⟨#[61, 34]⟩ : ByteArray).size = 2 := rfl
      have e3 : (⟨#[34]⟩ : ByteArray).size = 1 := rfl
      have e4 : (⟨#[44, 32]⟩ : ByteArray).size = 2 := rfl
      have s1 : ∀ W, (Op.stringOp .add x.1 (⟨#[61, 34]⟩)).run Tryz.prog W = .ok (.string (x.1 ++ ⟨#[61, 34]⟩)) W := fun W => run_string_add W _ _ (by first | omega | (simp only [ByteArray.size_append]; omega)) (by first | omega | (simp only [ByteArray.size_append]; omega))
      have s2 : ∀ W, (Op.stringOp .add ((x.1 ++ ⟨#[61, 34]⟩)) x.2).run Tryz.prog W = .ok (.string (x.1 ++ ⟨#[61, 34]⟩ ++ x.2)) W := fun W => run_string_add W _ _ (by first | omega | (simp only [ByteArray.size_append]; omega)) (by first | omega | (simp only [ByteArray.size_append]; omega))
      have s3 : ∀ W, (Op.stringOp .add ((x.1 ++ ⟨#[61, 34]⟩ ++ x.2)) (⟨#[34]⟩)).run Tryz.prog W = .ok (.string (x.1 ++ ⟨#[61, 34]⟩ ++ x.2 ++ ⟨#[34]⟩)) W := fun W => run_string_add W _ _ (by first | omega | (simp only [ByteArray.size_append]; omega)) (by first | omega | (simp only [ByteArray.size_append]; omega))
      have s4 : ∀ W, (Op.stringOp .add a ((x.1 ++ ⟨#[61, 34]⟩ ++ x.2 ++ ⟨#[34]⟩))).run Tryz.prog W = .ok (.string (a ++ (x.1 ++ ⟨#[61, 34]⟩ ++ x.2 ++ ⟨#[34]⟩))) W := fun W => run_string_add W _ _ (by first | omega | (simp only [ByteArray.size_append]; omega)) (by first | omega | (simp only [ByteArray.size_append]; omega))
      have s5 : ∀ W, (Op.stringOp .add ((a ++ ⟨#[44, 32]⟩)) ((x.1 ++ ⟨#[61, 34]⟩ ++ x.2 ++ ⟨#[34]⟩))).run Tryz.prog W = .ok (.string (a ++ ⟨#[44, 32]⟩ ++ (x.1 ++ ⟨#[61, 34]⟩ ++ x.2 ++ ⟨#[34]⟩))) W := fun W => run_string_add W _ _ (by first | omega | (simp only [ByteArray.size_append]; omega)) (by first | omega | (simp only [ByteArray.size_append]; omega))
      by_cases h0 : k = 0
      · have HS := Lib.hid (text_step0 l k h0 x a hx HA.out)
        have hk3 : ¬ (0 : Int) < (k : Int) := by omega
        clear s5
        clear cc hx hcell h0 e2 e3 e4
        go_wp2
        go_region_held3 (fun w' => w'.cell? ⟨g, off + k * 2, none⟩ = some (.string x.1) ∧ w'.cell? ⟨g, off + k * 2 + 1, none⟩ = some (.string x.2)) (go_keep) (fail)
        go_wp2
        go_roundw
        case rel => exact ⟨k + 1, _, by go_num, rfl, hlt, by simp only [ByteArray.size_append]; have e2 : (⟨#[44, 32]⟩ : ByteArray).size = 2 := rfl; have e3 : (⟨#[61, 34]⟩ : ByteArray).size = 2 := rfl; have e4 : (⟨#[34]⟩ : ByteArray).size = 1 := rfl; omega, HS, Lib.hid HF.out.drew⟩
        case measure => simp [intOf]; omega
      · have HS := Lib.hid (text_step l k (by omega) x a hx HA.out)
        have hk3 : (0 : Int) < (k : Int) := by omega
        clear s4
        clear cc hx hcell h0 e2 e3 e4
        go_wp2
        go_region_held3 (fun w' => w'.cell? ⟨g, off + k * 2, none⟩ = some (.string x.1) ∧ w'.cell? ⟨g, off + k * 2 + 1, none⟩ = some (.string x.2)) (go_keep) (fail)
        go_wp2
        go_roundw
        case rel => exact ⟨k + 1, _, by go_num, rfl, hlt, by simp only [ByteArray.size_append]; have e2 : (⟨#[44, 32]⟩ : ByteArray).size = 2 := rfl; have e3 : (⟨#[61, 34]⟩ : ByteArray).size = 2 := rfl; have e4 : (⟨#[34]⟩ : ByteArray).size = 1 := rfl; omega, HS, Lib.hid HF.out.drew⟩
        case measure => simp [intOf]; omega
    · obtain rfl : k = n := by omega
      go_wp2
      go_ret
      refine ⟨?_, HF.out⟩
      rw [← text_end l a (by rw [HN.out]; exact HA.out)]
      rfl
end Go.Proofs.YtbkookiigkckdaaGreatDoor
