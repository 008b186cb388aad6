/- Labels in a record: what is written is what is read, in plain Lean. -/
import Derived.Test.YtbkookiigkckdaaGreatDoorPs
import Derived.Test.YtbkookiigkckdaaGreatDoorLp
namespace Go.Proofs.YtbkookiigkckdaaGreatDoor
open Go.RowKit
set_option linter.unusedVariables false
set_option linter.unusedSimpArgs false

def encStr (s : ByteArray) : List UInt8 := Lib.uvarint s.size ++ s.data.toList
def encLab (p : Lab) : List UInt8 := encStr p.1 ++ encStr p.2
/-- What EncodeLabels writes. -/
def encLabs (l : List Lab) : List UInt8 := Lib.uvarint l.length ++ l.flatMap encLab

/-- Decbuf.UvarintBytes. -/
def gStr (st : St) : ByteArray × St := match (gUv st).2 with
  | none => (⟨#[]⟩, none)
  | some r => if r.length < (gUv st).1 then (⟨#[]⟩, none) else (⟨(r.take (gUv st).1).toArray⟩, some (r.drop (gUv st).1))
theorem gStr_enc (s : ByteArray) (r : List UInt8) (h : s.size < 18446744073709551616) : gStr (some (encStr s ++ r)) = (s, some r) := by
  have e : s.data.toList.length = s.size := by rw [← Lib.size_eq]
  have e2 : some (encStr s ++ r) = some (Lib.uvarint s.size ++ (s.data.toList ++ r)) := by rw [encStr, List.append_assoc]
  unfold gStr
  rw [e2, gUv_uv _ h]
  simp only []
  rw [if_neg (by rw [List.length_append]; omega), List.take_left' e, List.drop_left' e]
theorem gStr_size (l : List UInt8) (s : ByteArray) (st : St) (h : gStr (some l) = (s, st)) : s.size ≤ l.length ∧ ∀ r, st = some r → r.length ≤ l.length := by
  unfold gStr at h
  have hle : ∀ r, (gUv (some l)).2 = some r → r.length ≤ l.length := fun r hr => by
    unfold gUv at hr
    simp only [] at hr
    split at hr
    · injection hr with hr
      rw [← hr, List.length_drop]; omega
    · cases hr
  split at h
  · injection h with h1 h2
    subst h1 h2
    exact ⟨Nat.zero_le _, fun r hr => by cases hr⟩
  · rename_i r hr
    have := hle r hr
    split at h
    · injection h with h1 h2
      subst h1 h2
      exact ⟨Nat.zero_le _, fun r hr => by cases hr⟩
    · injection h with h1 h2
      subst h1 h2
      refine ⟨?_, fun r' hr' => ?_⟩
      · show (r.take _).toArray.size ≤ _
        simp; omega
      · injection hr' with hr'
        rw [← hr', List.length_drop]; omega
def gLab (st : St) : Lab × St := (((gStr st).1, (gStr (gStr st).2).1), (gStr (gStr st).2).2)
theorem gLab_enc (p : Lab) (r : List UInt8) (h1 : p.1.size < 18446744073709551616) (h2 : p.2.size < 18446744073709551616) : gLab (some (encLab p ++ r)) = (p, some r) := by
  unfold gLab encLab
  rw [List.append_assoc, gStr_enc _ _ h1]
  simp only []
  rw [gStr_enc _ _ h2]
def gLabs (st : St) : Nat → List Lab × St
  | 0 => ([], st)
  | k + 1 => ((gLabs st k).1 ++ [(gLab (gLabs st k).2).1], (gLab (gLabs st k).2).2)
theorem gLabs_enc (l : List Lab) (r : List UInt8) (hs : ∀ p ∈ l, p.1.size < 18446744073709551616 ∧ p.2.size < 18446744073709551616) :
    ∀ k, k ≤ l.length → gLabs (some (l.flatMap encLab ++ r)) k = (l.take k, some ((l.drop k).flatMap encLab ++ r))
  | 0, _ => by simp [gLabs]
  | k + 1, hk => by
    have ih := gLabs_enc l r hs k (by omega)
    have hx : l[k]? = some l[k] := List.getElem?_eq_getElem (by omega)
    have hm := hs _ (List.mem_of_getElem? hx)
    rw [gLabs, ih]
    simp only []
    rw [List.drop_eq_getElem_cons (by omega : k < l.length), List.flatMap_cons, List.append_assoc, gLab_enc _ _ hm.1 hm.2]
    simp only []
    rw [List.take_succ_eq_append_getElem (by omega)]
end Go.Proofs.YtbkookiigkckdaaGreatDoor
