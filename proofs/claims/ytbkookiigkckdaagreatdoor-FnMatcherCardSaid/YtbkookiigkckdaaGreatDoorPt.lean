/- Records of markers and of tombstones: what is written is what is read, in plain Lean. -/
import Derived.Test.YtbkookiigkckdaaGreatDoorPs
namespace Go.Proofs.YtbkookiigkckdaaGreatDoor
open Go.RowKit
set_option linter.unusedVariables false
set_option linter.unusedSimpArgs false

/-- A decoder's loop: parts are read as long as bytes are left. -/
def recLoop {α : Type} (step : St → α × St) : Nat → St → List α → List α × St
  | k + 1, some (c :: r), acc => recLoop step k (step (some (c :: r))).2 (acc ++ [(step (some (c :: r))).1])
  | _, st, acc => (acc, st)

theorem recLoop_enc {α : Type} (step : St → α × St) (enc : α → List UInt8) (Q : α → Prop) (hs : ∀ x r, Q x → step (some (enc x ++ r)) = (x, some r)) (hp : ∀ x, ∃ c r, enc x = c :: r) :
    ∀ (l : List α) (k : Nat) (acc : List α), (∀ x ∈ l, Q x) → l.length ≤ k → recLoop step k (some (l.flatMap enc)) acc = (acc ++ l, some [])
  | [], k, acc, _, _ => by cases k <;> simp [recLoop]
  | x :: l, 0, acc, _, h => by simp at h
  | x :: l, k + 1, acc, hw, h => by
    obtain ⟨c, r, e⟩ := hp x
    have hst := hs x (l.flatMap enc) (hw x (by simp))
    rw [List.flatMap_cons]
    rw [e] at hst ⊢
    show recLoop step (k + 1) (some (c :: (r ++ l.flatMap enc))) acc = _
    have hst' : step (some (c :: (r ++ l.flatMap enc))) = (x, some (l.flatMap enc)) := hst
    rw [recLoop, hst']
    simp only []
    rw [recLoop_enc step enc Q hs hp l k (acc ++ [x]) (fun y hy => hw y (by simp [hy])) (by simpa using h)]
    simp

theorem recLoop_all {α : Type} (step : St → α × St) (Q : α → Prop) (hq : ∀ st, Q (step st).1) : ∀ (k : Nat) (st : St) (acc : List α), (∀ x ∈ acc, Q x) → ∀ x ∈ (recLoop step k st acc).1, Q x
  | 0, st, acc, h => by simpa [recLoop] using h
  | k + 1, none, acc, h => by simpa [recLoop] using h
  | k + 1, some [], acc, h => by simpa [recLoop] using h
  | k + 1, some (c :: r), acc, h => by
    rw [recLoop]
    exact recLoop_all step Q hq k _ _ (fun s hs => by
      rcases List.mem_append.1 hs with h1 | h1
      · exact h s h1
      · rw [List.mem_singleton] at h1; subst h1; exact hq _)

/-- A record of the type t whose parts stand one behind the other. -/
def decParts {α : Type} (t : UInt8) (step : St → α × St) (xs : List UInt8) : Option (List α) :=
  match xs with
  | [] => none
  | b :: rest => if b = t then (match recLoop step rest.length (some rest) [] with
      | (l, some _) => some l
      | (_, none) => none) else none

theorem flat_pos {α : Type} (enc : α → List UInt8) (hp : ∀ x, ∃ c r, enc x = c :: r) (l : List α) : l.length ≤ (l.flatMap enc).length := by
  induction l with
  | nil => simp
  | cons s l ih =>
    obtain ⟨c, r, e⟩ := hp s
    rw [List.flatMap_cons, List.length_append, e]
    simp only [List.length_cons]
    omega

theorem decParts_enc {α : Type} (t : UInt8) (step : St → α × St) (enc : α → List UInt8) (Q : α → Prop) (hs : ∀ x r, Q x → step (some (enc x ++ r)) = (x, some r)) (hp : ∀ x, ∃ c r, enc x = c :: r) (l : List α) (hl : ∀ x ∈ l, Q x) :
    decParts t step (t :: l.flatMap enc) = some l := by
  rw [decParts, if_pos rfl, recLoop_enc step enc Q hs hp l _ [] hl (flat_pos enc hp l)]
  rfl

theorem decParts_all {α : Type} (t : UInt8) (step : St → α × St) (Q : α → Prop) (hq : ∀ st, Q (step st).1) (xs : List UInt8) (l : List α) (h : decParts t step xs = some l) : ∀ x ∈ l, Q x := by
  unfold decParts at h
  split at h
  · cases h
  · split at h
    · split at h
      · rename_i e
        injection h with h
        subst h
        exact fun s hs => recLoop_all step Q hq _ _ [] (by simp) s (by rw [e]; exact hs)
      · cases h
    · cases h

/-- Markers. -/
structure Mrk where
  ref : Nat
  mm : Nat
def Mrk.wf (s : Mrk) : Prop := s.ref < 18446744073709551616 ∧ s.mm < 18446744073709551616
def mrkStep (st : St) : Mrk × St := (⟨(gBe64 st).1, (gBe64 (gBe64 st).2).1⟩, (gBe64 (gBe64 st).2).2)
def encMrk (s : Mrk) : List UInt8 := Lib.beBytes 8 s.ref ++ Lib.beBytes 8 s.mm
theorem encMrk_pos (s : Mrk) : ∃ c r, encMrk s = c :: r := by
  rcases h : encMrk s with _ | ⟨c, r⟩
  · have := congrArg List.length h
    simp [encMrk, Lib.beBytes_length] at this
  · exact ⟨c, r, rfl⟩
theorem mrkStep_of {a b : Nat} {s0 s1 s2 : St} (h1 : gBe64 s0 = (a, s1)) (h2 : gBe64 s1 = (b, s2)) : mrkStep s0 = (⟨a, b⟩, s2) := by
  unfold mrkStep
  rw [h1]
  show (Mrk.mk a (gBe64 s1).1, (gBe64 s1).2) = _
  rw [h2]
theorem mrkStep_enc (s : Mrk) (r : List UInt8) (hs : s.wf) : mrkStep (some (encMrk s ++ r)) = (s, some r) := by
  have e0 : encMrk s ++ r = Lib.beBytes 8 s.ref ++ (Lib.beBytes 8 s.mm ++ r) := by simp only [encMrk, List.append_assoc]
  rw [e0, mrkStep_of (gBe64_be _ hs.1 _) (gBe64_be _ hs.2 _)]
def encMarkers (l : List Mrk) : List UInt8 := 5 :: l.flatMap encMrk
def decMarkers (xs : List UInt8) : Option (List Mrk) := decParts 5 mrkStep xs
theorem decMarkers_enc (l : List Mrk) (hl : ∀ s ∈ l, s.wf) : decMarkers (encMarkers l) = some l := decParts_enc 5 mrkStep encMrk Mrk.wf mrkStep_enc encMrk_pos l hl
theorem mrkStep_wf (st : St) : (mrkStep st).1.wf := ⟨gBe64_lt _, gBe64_lt _⟩
theorem decMarkers_wf (xs : List UInt8) (l : List Mrk) (h : decMarkers xs = some l) : ∀ s ∈ l, s.wf := decParts_all 5 mrkStep Mrk.wf mrkStep_wf xs l h

/-- Tombstones of one interval. -/
structure Stn where
  ref : Nat
  lo : Int
  hi : Int
def Stn.wf (s : Stn) : Prop := s.ref < 18446744073709551616 ∧ (-9223372036854775808 ≤ s.lo ∧ s.lo ≤ 9223372036854775807) ∧ (-9223372036854775808 ≤ s.hi ∧ s.hi ≤ 9223372036854775807)
def stnStep (st : St) : Stn × St := (⟨(gBe64 st).1, (gVar (gBe64 st).2).1, (gVar (gVar (gBe64 st).2).2).1⟩, (gVar (gVar (gBe64 st).2).2).2)
def encStn (s : Stn) : List UInt8 := Lib.beBytes 8 s.ref ++ (Lib.uvarint (Lib.zigzag s.lo) ++ Lib.uvarint (Lib.zigzag s.hi))
theorem encStn_pos (s : Stn) : ∃ c r, encStn s = c :: r := by
  rcases h : encStn s with _ | ⟨c, r⟩
  · have := congrArg List.length h
    simp [encStn, Lib.beBytes_length] at this
  · exact ⟨c, r, rfl⟩
theorem stnStep_of {a : Nat} {b c : Int} {s0 s1 s2 s3 : St} (h1 : gBe64 s0 = (a, s1)) (h2 : gVar s1 = (b, s2)) (h3 : gVar s2 = (c, s3)) : stnStep s0 = (⟨a, b, c⟩, s3) := by
  unfold stnStep
  rw [h1]
  show (Stn.mk a (gVar s1).1 (gVar (gVar s1).2).1, (gVar (gVar s1).2).2) = _
  rw [h2]
  show (Stn.mk a b (gVar s2).1, (gVar s2).2) = _
  rw [h3]
theorem stnStep_enc (s : Stn) (r : List UInt8) (hs : s.wf) : stnStep (some (encStn s ++ r)) = (s, some r) := by
  have e0 : encStn s ++ r = Lib.beBytes 8 s.ref ++ (Lib.uvarint (Lib.zigzag s.lo) ++ (Lib.uvarint (Lib.zigzag s.hi) ++ r)) := by simp only [encStn, List.append_assoc]
  rw [e0, stnStep_of (gBe64_be _ hs.1 _) (gVar_zz _ hs.2.1.1 hs.2.1.2 _) (gVar_zz _ hs.2.2.1 hs.2.2.2 _)]
def encFlat (l : List Stn) : List UInt8 := 3 :: l.flatMap encStn
def decStones (xs : List UInt8) : Option (List Stn) := decParts 3 stnStep xs
theorem decStones_enc (l : List Stn) (hl : ∀ s ∈ l, s.wf) : decStones (encFlat l) = some l := decParts_enc 3 stnStep encStn Stn.wf stnStep_enc encStn_pos l hl
theorem gUv_lt (st : St) : (gUv st).1 < 18446744073709551616 := by
  rcases st with _ | l
  · decide
  · unfold gUv
    simp only []
    split
    · exact Lib.uvarintDec_lt l
    · show 0 < 18446744073709551616
      omega
theorem gVar_bd (st : St) : -9223372036854775808 ≤ (gVar st).1 ∧ (gVar st).1 ≤ 9223372036854775807 := by
  have h := gUv_lt st
  have e : (gVar st).1 = Lib.unzigzag (gUv st).1 := rfl
  rw [e]
  generalize (gUv st).1 = n at h
  unfold Lib.unzigzag
  split <;> omega
theorem mk_stn {a : Nat} {b c : Int} (h1 : a < 18446744073709551616) (h2 : -9223372036854775808 ≤ b ∧ b ≤ 9223372036854775807) (h3 : -9223372036854775808 ≤ c ∧ c ≤ 9223372036854775807) : (Stn.mk a b c).wf := ⟨h1, h2, h3⟩
theorem stnStep_wf (st : St) : (stnStep st).1.wf := mk_stn (gBe64_lt _) (gVar_bd _) (gVar_bd _)
theorem decStones_wf (xs : List UInt8) (l : List Stn) (h : decStones xs = some l) : ∀ s ∈ l, s.wf := decParts_all 3 stnStep Stn.wf stnStep_wf xs l h

end Go.Proofs.YtbkookiigkckdaaGreatDoor
