/- impl.unmade: labels as a list again. -/
import Derived.Test.YtbkookiigkckdaaGreatDoorLr
namespace Go.Proofs.YtbkookiigkckdaaGreatDoor
open Go.RowKit
set_option linter.unusedVariables false
set_option linter.unusedSimpArgs false

theorem cv_fr {S : Nat → Prop} {w w' : World} (h : Fr S w w') (s : ByteArray) : Fr S w (Lib.bytesWorld w' 5 s) := by
  refine h.trans (S' := fun _ => False) ⟨?_, ?_, ?_, by rw [Lib.bytesWorld_size]; omega, fun k hk _ => Lib.bytesWorld_at_old w' 5 s k hk⟩ (fun _ _ e => e.elim)
  all_goals rfl
theorem cv_go (w : World) (s : ByteArray) : (convert 9 44 (.string s)).run Tryz.prog w = .ok (.slice (some ⟨w.heap.size, 0, none⟩) s.size (grownCap w s.size 0 5)) (Lib.bytesWorld w 5 s) :=
  Lib.run_convert_string_bytes w 9 44 5 s Tryz.underlying9 Tryz.underlying44 Tryz.underlying5
theorem cv_back (w : World) (s : ByteArray) (c : Nat) : (convert 44 9 (.slice (some ⟨w.heap.size, 0, none⟩) s.size c)).run Tryz.prog (Lib.bytesWorld w 5 s) = .ok (.string s) (Lib.bytesWorld w 5 s) := by
  have h := run_convert_bytes_back (P := Tryz.prog) (Lib.bytesWorld w 5 s) 44 9 5 ⟨w.heap.size, 0, none⟩ c s.data.toList Tryz.underlying44 Tryz.underlying5 Tryz.underlying9 (fun j hj => by
    have e1 : (⟨w.heap.size, 0, none⟩ : Addr).add j = ⟨w.heap.size, 0 + j, none⟩ := by unfold Addr.add; split <;> simp_all
    have hj2 : j < s.size := by rw [Lib.size_eq]; exact hj
    rw [e1, Nat.zero_add, Lib.bytesWorld_cell w 5 s j hj2]
    simp [List.getD, List.getElem?_eq_getElem hj])
  rw [← Lib.size_eq] at h
  rw [h]

/-- The row that unmade's closure writes. -/
def UJ (w0 : World) (c : Nat) (l : List Lab) (k : Nat) (W : World) : Prop :=
  ∃ v, Blk W c 31 #[v] ∧ W.ownsRow w0.heap.size 40 2 v k ((l.take k).flatMap labc) ∧ Fr (fun _ => False) w0 W

set_option maxRecDepth 100000 in
set_option maxHeartbeats 2000000 in
theorem unmade1_any (w0 : World) (c b : Nat) (hc : w0.heap.size ≤ c) (cs : Array Value) (l : List Lab) (k : Nat) (x : Lab) (hx : l[k]? = some x) (hl : l.length ≤ 1099511627776) (W : World) (h : UJ w0 c l k W) (hb : Blk W b 99 cs) :
    Calls Tryz.prog 163 #[.agg #[.string x.1, .string x.2], .pointer (some ⟨c, 0, none⟩)] W fun r w' => r = .returned (.tuple #[]) ∧ UJ w0 c l (k + 1) w' ∧ Blk w' b 99 cs := by
  obtain ⟨v, hcb, hown, hf⟩ := h
  obtain ⟨i0, hi0, hz0, hz1, hz2⟩ := info_parts Tryz.info40
  have hk : k < l.length := (List.getElem?_eq_some_iff.mp hx).1
  obtain ⟨n, y⟩ := x
  obtain ⟨W1, hW1⟩ : ∃ W1, W.alloc (.cells #[.string n, .string y] 108) = W1 := ⟨_, rfl⟩
  have hB1 : Blk W1 W.heap.size 108 #[.string n, .string y] := by rw [← hW1]; exact Blk.new W 108 _
  have F1 : Fr (fun _ => False) W W1 := by rw [← hW1]; exact (Fr.refl _ W).alloc _
  obtain ⟨W2, hW2⟩ : ∃ W2, Lib.bytesWorld W1 5 n = W2 := ⟨_, rfl⟩
  have F2 : Fr (fun _ => False) W1 W2 := by rw [← hW2]; exact cv_fr (Fr.refl _ W1) n
  obtain ⟨W3, hW3⟩ : ∃ W3, Lib.bytesWorld W2 5 y = W3 := ⟨_, rfl⟩
  have F3 : Fr (fun _ => False) W2 W3 := by rw [← hW3]; exact cv_fr (Fr.refl _ W2) y
  have a1 := cv_go W1 n
  have a2 := cv_back W1 n (grownCap W1 n.size 0 5)
  have a3 := cv_go W2 y
  have a4 := cv_back W2 y (grownCap W2 y.size 0 5)
  rw [hW2] at a1 a2
  rw [hW3] at a3 a4
  have c1 : W1.cell? ⟨c, 0, none⟩ = some v := (hcb.fr F1 (fun e => e)).cell 0
  have c2 : W1.cell? ⟨W.heap.size, 0, none⟩ = some (.string n) := hB1.cell 0
  have c3 : W2.cell? ⟨W.heap.size, 1, none⟩ = some (.string y) := (hB1.fr F2 (fun e => e)).cell 1
  obtain ⟨a', n', k', rfl⟩ := own_slice hown
  have FF : Fr (fun _ => False) W W3 := (F1.same F2).same F3
  have HO := Lib.hid (own_fr hown FF (fun _ _ e => e))
  have HC := Lib.hid (hcb.fr FF (fun e => e))
  have HBb := Lib.hid (hb.fr FF (fun e => e))
  have HF := Lib.hid (hf.same FF)
  have HX := Lib.hid hx
  have hsz0 : w0.heap.size ≤ W3.heap.size := (hf.same FF).size
  clear hown hcb hb hf FF F1 F2 F3 hB1
  go_enter Tryz.func163, Tryz.ntmps163
  go_wp2_with (at_builtin; refine Hid.out ?_)
  refine Lib.hid ?_
  refine wpList_append_src _ rfl _ _ 31 31 rfl w0.heap.size 40 i0 _ 2 32 Tryz.underlying31 hi0 hz0 hz1 hz2 rfl (by decide) _ k ((l.take k).flatMap labc) rfl (HO.out.alloc _) _ 1 (labc (n, y)) rfl (src_blk Tryz.underlying31 (Blk.new W3 40 (labc (n, y)).toArray) rfl (by simp [labc, Value.oneCell'])) (by unfold maxLen; omega) (by omega) (by simp; omega) ?_
  intro v' w2 hown' hgrow hat
  have hg : (W3.alloc (.cells (labc (n, y)).toArray 40)).grownBy w2 (Value.slice a' n' k').ownBlock := hgrow
  have n1 := own_ne HO.out HC.out (by decide)
  have n2 := own_ne HO.out HBb.out (by decide)
  have hC2 : Blk w2 c 31 #[.slice a' n' k'] := (HC.out.alloc _).grown hg (fun e => n1 e.symm)
  have hB2 : Blk w2 b 99 cs := (HBb.out.alloc _).grown hg (fun e => n2 e.symm)
  have hF2 : Fr (fun _ => False) w0 w2 := (HF.out.alloc _).grown hg (fun k hk => .inr ((HO.out.lt k hk).1))
  have hown2 : w2.ownsRow w0.heap.size 40 2 v' (k + 1) ((l.take (k + 1)).flatMap labc) := by rw [flatMap_take_succ labc l k _ HX.out]; exact hown'
  obtain ⟨a5, n5, k5, rfl⟩ := own_slice hown2
  have c4 := hC2.cell 0
  have f4 := hC2.frozen 0
  have hne : b ≠ c := Blk.ne_ hB2 hC2 (by decide)
  have HH := Lib.hid (And.intro hC2 (And.intro hB2 (And.intro hF2 (And.intro hown2 hne))))
  clear hgrow hat hg hown' n1 n2 hC2 hB2 hF2 hown2 hne a1 a2 a3 a4 c1 c2 c3 hW1 hW2 hW3
  go_wp2
  go_end0
  obtain ⟨hC2, hB2, hF2, hown2, hne⟩ := HH.out
  refine ⟨rfl, ⟨_, hC2.set_ 0 _, ?_, hF2.setCell (p := ⟨c, 0, none⟩) (.inr hc) _⟩, hB2.far hne _⟩
  exact own_fr (S := fun k => k = c) hown2 (Fr.at_ w2 c 0 _) (fun g hg e => own_ne hown2 hC2 (by decide) (by rw [hg]; exact congrArg some e))

theorem UJ.fr {w0 : World} {c : Nat} {l : List Lab} {k : Nat} {W W' : World} (h : UJ w0 c l k W) (hf : Fr (fun _ => False) W W') : UJ w0 c l k W' := by
  obtain ⟨v, h1, h2, h3⟩ := h
  exact ⟨v, h1.fr hf (fun e => e), own_fr h2 hf (fun _ _ e => e), h3.same hf⟩

set_option maxRecDepth 100000 in
set_option maxHeartbeats 2000000 in
theorem unmade_any (l : List Lab) (w : World) (hl : l.length ≤ 1099511627776) (hs : ∀ p ∈ l, p.1.size < 16777216 ∧ p.2.size < 16777216) (hsz : labsSize l ≤ 1099511627776) :
    Calls Tryz.prog 70 #[.agg #[.string (labStr l)]] w (LabEnds 40 w l) := by
  have eg : ∀ args w, (callFunc 163 args).run Tryz.prog w = .ok (.enter 163 args) w := enters_of Tryz.func163 (by kernel_rfl) rfl
  obtain ⟨W, hW⟩ : ∃ W, (w.alloc (.cells #[.string (labStr l)] 99)).alloc (.cells #[.slice none 0 0] 31) = W := ⟨_, rfl⟩
  have hb1 : Blk W (w.heap.size + 1) 31 #[.slice none 0 0] := by rw [← hW]; exact blk_new2 w _ 31 _
  have hF : Fr (fun _ => False) w W := by rw [← hW]; exact ((Fr.refl _ w).alloc _).alloc _
  have hJ0 : UJ w (w.heap.size + 1) l 0 W := ⟨_, hb1, World.ownsRow_nil _ _ _ _, hF⟩
  have hR := range_any l 163 #[.pointer (some ⟨w.heap.size + 1, 0, none⟩)] eg (UJ w (w.heap.size + 1) l) W hs hsz (fun _ _ _ h hf => h.fr hf) hJ0
    (fun k x W' hx hj hb => unmade1_any w (w.heap.size + 1) W.heap.size (by omega) _ l k x hx hl W' hj hb)
  have c0 : W.cell? ⟨w.heap.size, 0, none⟩ = some (.string (labStr l)) := by rw [← hW]; exact ((Blk.new w 99 #[.string (labStr l)]).alloc _).cell 0
  generalize labStr l = s at hR hW c0 ⊢
  clear hJ0 hF hb1 hs hsz
  have hmf : ∀ (fn : Fn) (first cap : Array Value) (w : World), (Instr.makeFunc fn first cap).run Tryz.prog w = .ok (.func fn first cap) w := fun _ _ _ _ => rfl
  go_enter Tryz.func70, Tryz.ntmps70
  go_wp2_with (go_at_call 152; refine hR.mono ?_; rintro r w1 ⟨rfl, v, h1, h2, h3⟩; have c1 := h1.cell 0)
  go_ret
  rw [List.take_length] at h2
  exact ⟨v, rfl, h2, h3⟩
end Go.Proofs.YtbkookiigkckdaaGreatDoor
