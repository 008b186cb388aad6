/- Records of samples: what is written is what is read, in plain Lean. -/
import Derived.Test.YtbkookiigkckdaaGreatDoorSd
import Derived.Lib.EndianMore
namespace Go.Proofs.YtbkookiigkckdaaGreatDoor
open Go.RowKit
set_option linter.unusedVariables false
set_option linter.unusedSimpArgs false

/-- Reading back what uvarint writes. -/
theorem uvFrom_uv : ∀ (i x acc : Nat) (r : List UInt8), i ≤ 9 → x * 2 ^ (7 * i) < 18446744073709551616 →
    Lib.uvarintFrom i acc (Lib.uvarint x ++ r) = (acc + x * 2 ^ (7 * i), (i : Int) + (Lib.uvarint x).length) := by
  intro i x
  induction x using Nat.strongRecOn generalizing i with
  | _ x ih =>
    intro acc r hi hx
    rcases Nat.lt_or_ge x 128 with h | h
    · rw [Lib.uvarint_small h]
      show Lib.uvarintFrom i acc (x.toUInt8 :: r) = _
      have hn : (x.toUInt8).toNat = x := by simp; omega
      rw [Lib.uvarintFrom, if_neg (by omega), if_pos (by omega), hn]
      rw [if_neg]
      · simp
      · rintro ⟨rfl, h2⟩
        simp at hx
        omega
    · rw [Lib.uvarint_big h]
      show Lib.uvarintFrom i acc ((x % 128 + 128).toUInt8 :: (Lib.uvarint (x / 128) ++ r)) = _
      have hn : ((x % 128 + 128).toUInt8).toNat = x % 128 + 128 := by simp; omega
      have hi9 : i < 9 := by
        rcases Nat.lt_or_ge i 9 with h' | h'
        · exact h'
        · obtain rfl : i = 9 := by omega
          simp at hx; omega
      have hp : 2 ^ (7 * (i + 1)) = 128 * 2 ^ (7 * i) := by rw [Nat.mul_add, Nat.pow_add]; simp [Nat.mul_comm]
      have hx2 : (x / 128) * 2 ^ (7 * (i + 1)) ≤ x * 2 ^ (7 * i) := by
        rw [hp, ← Nat.mul_assoc]
        exact Nat.mul_le_mul_right _ (Nat.div_mul_le_self x 128)
      rw [Lib.uvarintFrom, if_neg (by omega), if_neg (by omega), hn, ih (x / 128) (by omega) (i + 1) _ r (by omega) (by omega)]
      have he : x * 2 ^ (7 * i) = x % 128 * 2 ^ (7 * i) + x / 128 * 2 ^ (7 * (i + 1)) := by
        rw [hp, ← Nat.mul_assoc, ← Nat.add_mul]
        congr 1
        omega
      have e1 : (x % 128 + 128) % 128 = x % 128 := by omega
      rw [e1, he]
      simp only [List.length_cons]
      refine Prod.ext (by simp only []; omega) (by simp only []; omega)

theorem gUv_uv (x : Nat) (hx : x < 18446744073709551616) (r : List UInt8) : gUv (some (Lib.uvarint x ++ r)) = (x, some r) := by
  have h : Lib.uvarintDec (Lib.uvarint x ++ r) = (x, ((Lib.uvarint x).length : Int)) := by
    rw [Lib.uvarintDec, uvFrom_uv 0 x 0 r (by omega) (by simpa using hx)]
    simp
  have hp := Lib.uvarint_pos x
  unfold gUv
  simp only [h]
  rw [if_pos (by omega)]
  simp

theorem unzz (x : Int) : Lib.unzigzag (Lib.zigzag x) = x := by
  unfold Lib.unzigzag Lib.zigzag
  split <;> split <;> omega

theorem gVar_zz (x : Int) (h0 : -9223372036854775808 ≤ x) (h1 : x ≤ 9223372036854775807) (r : List UInt8) : gVar (some (Lib.uvarint (Lib.zigzag x) ++ r)) = (x, some r) := by
  unfold gVar
  rw [gUv_uv _ (by unfold Lib.zigzag; split <;> omega), unzz]

theorem gBe64_be (v : Nat) (hv : v < 18446744073709551616) (r : List UInt8) : gBe64 (some (Lib.beBytes 8 v ++ r)) = (v, some r) := by
  have h := Lib.beNat_beBytes 8 v (by simpa using hv)
  have hl := Lib.beBytes_length 8 v
  generalize Lib.beBytes 8 v = l at h hl ⊢
  match l, hl with
  | [b0, b1, b2, b3, b4, b5, b6, b7], _ => rw [← h]; rfl

theorem i64_u64 (t : Int) (h0 : -9223372036854775808 ≤ t) (h1 : t ≤ 9223372036854775807) : i64 (u64 t) = t := by
  unfold i64 u64 wrap64; omega

theorem ref_back (a b : Nat) (ha : a < 18446744073709551616) : u64 (wrap64 (wrap64 b + wrap64 (wrap64 a - wrap64 b))) = a := by
  have h : wrap64 (wrap64 b + wrap64 (wrap64 a - wrap64 b)) % 18446744073709551616 = (a : Int) := by unfold wrap64; omega
  rw [u64, h]; rfl
theorem t_back (a b : Int) (h0 : -9223372036854775808 ≤ a) (h1 : a ≤ 9223372036854775807) : wrap64 (b + wrap64 (a - b)) = a := by unfold wrap64; omega

theorem smpStep_of {br : Nat} {bt x y : Int} {v : Nat} {s0 s1 s2 s3 : St} (h1 : gVar s0 = (x, s1)) (h2 : gVar s1 = (y, s2)) (h3 : gBe64 s2 = (v, s3)) : smpStep br bt s0 = (⟨u64 (wrap64 (i64 br + x)), wrap64 (bt + y), v⟩, s3) := by
  unfold smpStep
  rw [h1]
  show (Smp.mk _ (wrap64 (bt + (gVar s1).1)) (gBe64 (gVar s1).2).1, (gBe64 (gVar s1).2).2) = _
  rw [h2]
  show (Smp.mk _ _ (gBe64 s2).1, (gBe64 s2).2) = _
  rw [h3]

theorem smpStep_enc (f s : Smp) (hf : f.wf) (hs : s.wf) (r : List UInt8) : smpStep f.ref f.t (some (encSmp f s ++ r)) = (s, some r) := by
  have e0 : encSmp f s ++ r = Lib.uvarint (Lib.zigzag (dRef f s)) ++ (Lib.uvarint (Lib.zigzag (dT f s)) ++ (Lib.beBytes 8 s.v ++ r)) := by simp only [encSmp, List.append_assoc]
  rw [e0, smpStep_of (gVar_zz (dRef f s) (wrap64_bd _).1 (wrap64_bd _).2 _) (gVar_zz (dT f s) (wrap64_bd _).1 (wrap64_bd _).2 _) (gBe64_be _ hs.2.2.2 _)]
  show (Smp.mk (u64 (wrap64 (wrap64 f.ref + wrap64 (wrap64 s.ref - wrap64 f.ref)))) (wrap64 (f.t + wrap64 (s.t - f.t))) s.v, some r) = _
  rw [ref_back _ _ hs.1, t_back _ _ hs.2.1 hs.2.2.1]

theorem encSmp_pos (f s : Smp) : ∃ c r, encSmp f s = c :: r := by
  have := Lib.uvarint_pos (Lib.zigzag (dRef f s))
  rcases h : encSmp f s with _ | ⟨c, r⟩
  · have : (encSmp f s).length = 0 := by rw [h]; rfl
    unfold encSmp at this
    simp only [List.length_append] at this; omega
  · exact ⟨c, r, rfl⟩

theorem smpLoop_enc (f : Smp) (hf : f.wf) : ∀ (l : List Smp) (k : Nat) (acc : List Smp), (∀ s ∈ l, s.wf) → l.length ≤ k → smpLoop f.ref f.t k (some (l.flatMap (encSmp f))) acc = (acc ++ l, some [])
  | [], k, acc, _, _ => by cases k <;> simp [smpLoop]
  | s :: l, 0, acc, _, h => by simp at h
  | s :: l, k + 1, acc, hw, h => by
    obtain ⟨c, r, e⟩ := encSmp_pos f s
    have hst := smpStep_enc f s hf (hw s (by simp)) (l.flatMap (encSmp f))
    rw [List.flatMap_cons]
    rw [e] at hst ⊢
    show smpLoop f.ref f.t (k + 1) (some (c :: (r ++ l.flatMap (encSmp f)))) acc = _
    have hst' : smpStep f.ref f.t (some (c :: (r ++ l.flatMap (encSmp f)))) = (s, some (l.flatMap (encSmp f))) := hst
    rw [smpLoop, hst']
    simp only []
    rw [smpLoop_enc f hf l k (acc ++ [s]) (fun x hx => hw x (by simp [hx])) (by simpa using h)]
    simp

theorem encSmp_lenpos (f : Smp) (l : List Smp) : l.length ≤ (l.flatMap (encSmp f)).length := by
  induction l with
  | nil => simp
  | cons s l ih =>
    obtain ⟨c, r, e⟩ := encSmp_pos f s
    rw [List.flatMap_cons, List.length_append, e]
    simp only [List.length_cons]
    omega

theorem dec_enc (l : List Smp) (hl : ∀ s ∈ l, s.wf) : decSamples (encSamples l) = some l := by
  rcases l with _ | ⟨f, r⟩
  · rfl
  · have hf := hl f (by simp)
    have hn := encSmp_lenpos f (f :: r)
    obtain ⟨X, hX⟩ : ∃ X, (f :: r).flatMap (encSmp f) = X := ⟨_, rfl⟩
    have h1 := gBe64_be f.ref hf.1 (Lib.beBytes 8 (u64 f.t) ++ X)
    have h2 := gBe64_be (u64 f.t) (u64_lt _) X
    have hL := smpLoop_enc f hf (f :: r) (Lib.beBytes 8 f.ref ++ (Lib.beBytes 8 (u64 f.t) ++ X)).length [] hl (by simp only [List.length_append]; rw [← hX]; omega)
    rw [hX] at hL
    have e0 : encSamples (f :: r) = 2 :: (Lib.beBytes 8 f.ref ++ (Lib.beBytes 8 (u64 f.t) ++ X)) := by
      rw [← hX]; simp only [encSamples, encHdr, List.append_assoc]; rfl
    rw [e0, decSamples, if_pos rfl, if_neg (by
      intro h
      have := congrArg List.length h
      simp [Lib.beBytes_length] at this)]
    have e3 : gBe64i (gBe64 (some (Lib.beBytes 8 f.ref ++ (Lib.beBytes 8 (u64 f.t) ++ X)))).2 = (f.t, some X) := by
      rw [h1]
      show (i64 (gBe64 (some (Lib.beBytes 8 (u64 f.t) ++ X))).1, (gBe64 (some (Lib.beBytes 8 (u64 f.t) ++ X))).2) = _
      rw [h2]
      show (i64 (u64 f.t), some X) = _
      rw [i64_u64 _ hf.2.1 hf.2.2.1]
    rw [e3, h1]
    show (match smpLoop f.ref f.t _ (some X) [] with | (l, some _) => some l | (_, none) => none) = _
    rw [hL]
    rfl

theorem beFrom_lt : ∀ (l : List UInt8) (acc k : Nat), acc < 256 ^ k → Lib.beFrom acc l < 256 ^ (k + l.length)
  | [], acc, k, h => by simpa [Lib.beFrom] using h
  | b :: r, acc, k, h => by
    have h1 : acc * 256 + b.toNat < 256 ^ (k + 1) := by
      rw [Nat.pow_succ]
      have := b.toNat_lt
      omega
    have h2 := beFrom_lt r (acc * 256 + b.toNat) (k + 1) h1
    rw [Lib.beFrom, List.length_cons, show k + (r.length + 1) = k + 1 + r.length by omega]
    exact h2
theorem gBe64_lt (st : St) : (gBe64 st).1 < 18446744073709551616 := by
  unfold gBe64
  split
  · rename_i b0 b1 b2 b3 b4 b5 b6 b7 r
    have h := beFrom_lt [b0, b1, b2, b3, b4, b5, b6, b7] 0 0 (by decide)
    have e : 256 ^ (0 + [b0, b1, b2, b3, b4, b5, b6, b7].length) = 18446744073709551616 := by simp
    exact Nat.lt_of_lt_of_eq h e
  · show 0 < 18446744073709551616
    omega
theorem mk_wf {a : Nat} {b : Int} {c : Nat} (h1 : a < 18446744073709551616) (h2 : -9223372036854775808 ≤ b ∧ b ≤ 9223372036854775807) (h3 : c < 18446744073709551616) : (Smp.mk a b c).wf := ⟨h1, h2.1, h2.2, h3⟩
theorem smpStep_wf (br : Nat) (bt : Int) (st : St) : (smpStep br bt st).1.wf := mk_wf (u64_lt _) (wrap64_bd _) (gBe64_lt _)
theorem smpLoop_wf (br : Nat) (bt : Int) : ∀ (k : Nat) (st : St) (acc : List Smp), (∀ s ∈ acc, s.wf) → ∀ s ∈ (smpLoop br bt k st acc).1, s.wf
  | 0, st, acc, h => by simpa [smpLoop] using h
  | k + 1, none, acc, h => by simpa [smpLoop] using h
  | k + 1, some [], acc, h => by simpa [smpLoop] using h
  | k + 1, some (c :: r), acc, h => by
    rw [smpLoop]
    exact smpLoop_wf br bt k _ _ (fun s hs => by
      rcases List.mem_append.1 hs with h1 | h1
      · exact h s h1
      · rw [List.mem_singleton] at h1; subst h1; exact smpStep_wf _ _ _)
theorem decSamples_wf (xs : List UInt8) (l : List Smp) (h : decSamples xs = some l) : ∀ s ∈ l, s.wf := by
  unfold decSamples at h
  split at h
  · cases h
  · split at h
    · split at h
      · cases h; simp
      · split at h
        · rename_i e
          injection h with h
          subst h
          exact fun s hs => smpLoop_wf _ _ _ _ [] (by simp) s (by rw [e]; exact hs)
        · cases h
    · cases h

end Go.Proofs.YtbkookiigkckdaaGreatDoor
