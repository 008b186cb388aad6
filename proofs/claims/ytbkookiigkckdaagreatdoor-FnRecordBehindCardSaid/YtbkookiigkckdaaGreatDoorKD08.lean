/- Merged. -/
import Derived.Test.YtbkookiigkckdaaGreatDoorKD07
import Derived.Laws.IdiomStrings
import Derived.Deep.OwnRows
import Derived.Laws.BytesArg
set_option linter.unusedVariables false
set_option linter.unusedSimpArgs false
set_option maxRecDepth 100000
set_option maxHeartbeats 8000000
namespace Go.Proofs.YtbkookiigkckdaaGreatDoor
open Go.RowKit Go.Sort Go.Proofs.Tryz
theorem cmp_lt : ∀ (a b : List UInt8), Lib.compareBytes a b < 0 ↔ a < b
 | [], [] => by simp [Lib.compareBytes]
 | [], _ :: _ => by simp [Lib.compareBytes]
 | _ :: _, [] => by simp [Lib.compareBytes]
 | a :: xs, b :: ys => by
   simp only [Lib.compareBytes, List.cons_lt_cons_iff]; by_cases h1 : a < b
   ·simp [h1]
   ·by_cases h2 : b < a
    ·simp only [znd h1, if_pos h2]
     constructor
     ·intro h; exact absurd h (by decide)
     ·rintro (h | ⟨rfl, _⟩)
      ·exact absurd h h1
      ·exact absurd h2 h1
    ·rw [znd h1, znd h2, cmp_lt xs ys]
     have e : a = b := UInt8.le_antisymm (UInt8.not_lt.mp h2) (UInt8.not_lt.mp h1); simp [e]
def nlt (a b : ByteArray) : Bool := decide (a.data.toList < b.data.toList)
def zhp (x y : Lab) : Int := Lib.compareBytes x.1.data.toList y.1.data.toList
theorem zkR (x y : Lab) : ltOf zhp x y = nlt x.1 y.1 := by
 unfold ltOf zhp nlt; exact decide_eq_decide.mpr (cmp_lt _ _)
theorem swoLab : SWO (ltOf zhp) where
 irrefl x := by rw [zkR]; simp [nlt, List.lt_irrefl]
 trans x y z h1 h2 := by simp only [zkR, nlt, decide_eq_true_eq] at *; exact List.lt_trans h1 h2
 ntrans x y z h1 h2 := by
  simp only [zkR, nlt, decide_eq_false_iff_not, List.not_lt] at *
  exact List.le_trans h2 h1
theorem zeg (l : List Lab) : (l.flatMap zaK).length = l.length * 2 := by
 induction l with
 | nil => rfl
 | cons x l ih => rw [zmw, zmi, ih, zmz, Nat.add_mul]; show 2 + _ = _; omega
theorem zhw (l : List Lab) : flatK zaK 2 l.toArray = (l.flatMap zaK).toArray := by
 have hl : (l.flatMap zaK).length = l.length * 2 := zeg l; refine ext_get! (by simp [hl]) fun t ht => ?_; have ht' : t < l.length * 2 := by simpa using ht
 rw [get_flatK _ _ _ t (by simpa using ht')]; have hk : t / 2 < l.length := by omega
 have h2 := zby zaK (fun _ => rfl) l (t / 2) l[t / 2] (zmj hk) (t % 2) (by omega); rw [show t / 2 * 2 + t % 2 = t by omega] at h2; rw [getElem!_pos l.toArray (t / 2) (by simpa using hk)]; have ht2 : t < (l.flatMap zaK).length := by omega
 rw [getElem!_pos (l.flatMap zaK).toArray t (by simpa using ht2)]; rw [zmj ht2] at h2; have h3 : t % 2 < (zaK l[t / 2]).length := by show t % 2 < 2; omega
 rw [zmj h3] at h2; injection h2 with h2; rw [show l.toArray[t / 2] = l[t / 2] from by simp, getElem!_pos (zaK l[t / 2]) (t % 2) h3]; simpa using h2.symm
theorem new1_any (x y : Lab) (W : World) : Calls prog 219 #[.agg #[.string x.1, .string x.2], .agg #[.string y.1, .string y.2]] W fun e w' => e = .returned (.int .i64 (zhp x y)) /\ ∃ q os', w' = grow (W.drewN q) os' := by
 have fY := fun W' => strings_Compare x.1 y.1 W'; unfold zhp; generalize Lib.compareBytes x.1.data.toList y.1.data.toList = r at fY ⊢; go_enter func219, ntmps219; go_wp2_with (go_at_call 207; refine (fY _).mono ?_; rintro e w' ⟨rfl, rfl⟩)
 go_ret; exact ⟨rfl, 0, _, by rw [alloc_eq_grow, alloc_eq_grow, grow_grow]; rfl⟩
theorem len157 (n : Nat) (W : World) (h : n <= 12) : Calls prog 157 #[.int .u64 n] W fun e w' => (∃ l : Int, e = .returned (.int .i64 l)) /\ w' = W :=
 (bits_Len n W (by omega) (by omega)).mono fun _ _ ⟨he, hw⟩ => ⟨⟨_, he⟩, hw⟩
theorem Fr.sortWorldK {w : World} (n blk off : Nat) (d : Array Lab) (os : Array Obj) (hb : blk < w.heap.size) : Fr (fun k => k = blk) w (sortWorldK zaK 2 w blk off n d os) := by
 unfold Go.Proofs.sortWorldK; refine ⟨rfl, rfl, rfl, ?_, ?_⟩
 ·rw [size_grow, size_putRowK]
  exact Nat.le_add_right _ _
 ·intro k hk hn
  rw [heap_grow_old _ _ (by rw [size_putRowK]; exact hk)]; unfold putRowK putRow mapBlock; show (Array.modify w.heap blk _)[k]? = _; rw [Array.getElem?_modify, znd (fun e => hn e.symm)]
def SortEnds (v : Value) (l : List Lab) (w : World) (r : Ending) (w' : World) : Prop :=
 r = .returned (.tuple #[]) /\ ∃ l' : List Lab, l'.Perm l /\ l'.Pairwise (fun a b => nlt b.1 a.1 = false) /\ Sl (fun g => v.ownBlock = some g) w' v 2 l'.length (l'.flatMap zaK) /\ Fr (fun g => v.ownBlock = some g) w w'
theorem sort_any (base : Nat) (v : Value) (l : List Lab) (w : World) (h : w.ownsRow base 108 2 v l.length (l.flatMap zaK)) (hl : l.length <= 12) :
 Calls prog 205 #[v, .func (.func 219) #[] #[]] w (SortEnds v l w) := by
 rcases h with ⟨ai, ⟨rfl, hn⟩ | ⟨g, c, cur, rfl, hb, hh, hc, hm, im, ht⟩⟩
 ·have e : l = [] := zmJ hn
  subst e; have fY := AnyF.slices_SortFunc_none sortLab none 0 (.func (.func 219) #[] #[]) w; refine fY.mono ?_; rintro r w' ⟨rfl, rfl⟩; refine ⟨rfl, [], List.Perm.refl _, List.Pairwise.nil, ?_, znl _ _⟩; exact zno (zmv (base := base) (e := 108) (size := 2) (w := w'))
 ·have eg : ∀ args w, (callFunc 219 args).run prog w = .ok (.enter 219 args) w := enters_of func219 (by kernel_rfl) rfl
  have nI : g < w.heap.size := Blk.lt (t := 108) hh; have hH : HoldsK zaK 2 w g 0 l.toArray := by
   unfold HoldsK; rw [zhw]; intro j hj; have qb : j < (l.flatMap zaK).length := by simpa using hj
   rw [zmM, Blk.cell (t := 108) hh, getElem!_pos _ j hj]; refine ⟨?_, Blk.frozen (t := 108) hh j⟩; have e : (l.flatMap zaK)[j]? = cur[j]? := by
    rw [<- ht, List.getElem?_take, if_pos (by omega)]; simp
   rw [<- e, zmj qb]; simp
  have fY := AnyQ.slices_SortFunc_small_sorted sortLab 2 isAgg108 sizeOf108 zaK (fun _ => rfl) (fun x v hv => by simp [zaK] at hv; rcases hv with rfl | rfl <;> rfl) zhp 219 #[] swoLab g 0 c l.toArray w eg (fun _ _ _ _ x y => new1_any x y _) hH nI (by simpa using hl) len157; change Calls prog 205 #[.slice (some ⟨g, 0, none⟩) l.toArray.size c, _] _ _ at fY
  rw [List.size_toArray] at fY; refine fY.mono ?_; rintro r w' ⟨rfl, d', n, os, hp, hs, rfl⟩; obtain ⟨bD, _, et⟩ := hp; have nj : d'.size = l.length := by simpa using bD
  have ed : d'.toList.toArray = d' := by simp
  refine ⟨rfl, d'.toList, ?_, ?_, ?_, (Fr.sortWorldK n g 0 d' os nI).mono fun k _ e => by subst e; rfl⟩
  ·have e1 : d'.extract 0 l.length = d' := by rw [<- nj]; simp
   have e2 : l.toArray.extract 0 l.length = l.toArray := by simp
   rw [e1, e2] at et; exact et
  ·rw [List.pairwise_iff_getElem]
   intro i j hi hj hij; have hi' : i < d'.size := by simpa using hi
   have hj' : j < d'.size := by simpa using hj
   have := hs i j (zms _) hij (by omega); rw [getElem!_pos d' j hj', getElem!_pos d' i hi', zkR] at this; simpa using this
  ·have hH2 : HoldsK zaK 2 (sortWorldK zaK 2 w g 0 n d' os) g 0 d' := holdsK_sortWorldK_c zaK 2 w g 0 l.toArray d' n os hH nI (by simpa using nj)
   have e9 : d'.toList.length = l.length := by simpa using nj
   show Sl (fun k => (Value.slice (some ⟨g, 0, none⟩) l.length c).ownBlock = some k) _ (.slice (some ⟨g, 0, none⟩) l.length c) 2 _ _; rw [e9]; refine ⟨some ⟨g, 0, none⟩, c, rfl, ?_, hc, fun _ => ⟨g, 0, rfl, rfl, ?_⟩⟩
   ·rw [zeg, e9]
   ·intro j u hu
    have hj : j < (d'.toList.flatMap zaK).length := by
     rcases zmK j (d'.toList.flatMap zaK).length with h | h
     ·exact h
     ·rw [zmL h] at hu; cases hu
    unfold HoldsK at hH2; rw [<- ed, zhw, ed] at hH2; have := (hH2 j (by simpa using hj)).1; rw [this, getElem!_pos _ j (by simpa using hj)]; rw [zmj hj] at hu; simpa using hu
end Go.Proofs.YtbkookiigkckdaaGreatDoor
namespace Go.Proofs.YtbkookiigkckdaaGreatDoor
open Go.RowKit Go.Proofs.Tryz
theorem zkD (g n c : Nat) (bs : List UInt8) (w : World) (h : Buf w g n 0 bs) : Calls prog 210 #[.slice (some ⟨g, 0, none⟩) n c] w fun r w' => r = .returned (.string ⟨bs.toArray⟩) /\ w = w' := by
 obtain ⟨_, cs, hb, hs, hd⟩ := h; rw [List.drop_zero] at hd; have hn : bs.length = n := by rw [<- hs, <- zda bs, <- hd]; simp
 subst hn
 have hc := run_convert_bytes_back (P := prog) w 44 9 5 ⟨g, 0, none⟩ c bs underlying44 underlying5 underlying9 (fun j hj => by
  have e1 : (⟨g, 0, none⟩ : Addr).add j = ⟨g, 0 + j, none⟩ := by unfold Addr.add; split <;> simp_all
  rw [e1, zmM, hb.cell]; have e2 : cs[j]? = (bc bs)[j]? := by rw [<- hd]; simp
  rw [e2, zd6, zmj hj]
  rfl)
 go_enter func210, ntmps210; go_wp2; go_ret; exact ⟨rfl, rfl⟩
def zau (l : List Lab) : ByteArray := ⟨(zay l).toArray⟩
def LabMade (l : List Lab) (S : Nat -> Prop) (w : World) (r : Ending) (w' : World) : Prop :=
 ∃ l' : List Lab, l'.Perm l /\ l'.Pairwise (fun a b => nlt b.1 a.1 = false) /\ r = .returned (.agg #[.string (zau l')]) /\ Fr S w w'
theorem buf_new (w : World) (n : Nat) : Buf (w.alloc (.cells (madeCells #[.int .u8 0] n) 5)) w.heap.size n n [] := by
 refine ⟨zmt _, _, znm w 5 _, size_madeCells _ _, ?_⟩; rw [List.drop_of_length_le (by rw [Array.length_toList, size_madeCells]; exact zmt _)]; rfl
theorem zlk {l l' : List Lab} (h : l'.Perm l) (hs : ∀ p ∈ l, p.1.size <= 1048576 /\ p.2.size <= 1048576) : ∀ p ∈ l', p.1.size <= 1048576 /\ p.2.size <= 1048576 := fun p hp => hs p (h.mem_iff.mp hp)
theorem new_any (base : Nat) (v : Value) (l : List Lab) (w : World) (h : w.ownsRow base 108 2 v l.length (l.flatMap zaK)) (hl : l.length <= 12) (hs : ∀ p ∈ l, p.1.size <= 1048576 /\ p.2.size <= 1048576) :
 Calls prog 148 #[v] w (LabMade l (fun k => v.ownBlock = some k) w) := by
 have hA : w.alloc (.cells #[.string ⟨#[]⟩] 99) = w.alloc (.cells #[.string ⟨#[]⟩] 99) := rfl; have ab : (w.alloc (.cells #[.string ⟨#[]⟩] 99)).ownsRow base 108 2 v l.length (l.flatMap zaK) := h.alloc _; have mD := sort_any base v l _ ab hl; have HO := zmh h; have HS := zmh hs; have hlt : ∀ k, v.ownBlock = some k -> k < w.heap.size := fun k hk => zaq h hk; clear h hs ab hA
 go_enter func148, ntmps148; go_wp2_with (go_at_call 205; refine mD.mono ?_; rintro r w1 ⟨rfl, l', et, mc, au, hf⟩)
 have fE : Blk w1 w.heap.size 99 #[.string ⟨#[]⟩] := (znm w 99 _).fr hf (fun e => zm1 _ (hlt _ e)); have mf := zlk et HS.out; have fU : l'.length <= 12 := by rw [et.length_eq]; exact hl
 have dE : Fr (fun k => v.ownBlock = some k) w w1 := ((znl _ w).alloc _).same hf; refine (zey _ v l' w1 au (by omega) mf).mono ?_; rintro r w2 ⟨rfl, aq⟩; have cX := au.fr aq z_i; have hb2 := fE.fr aq id; have bQ := zdI l' mf; obtain ⟨n, hn⟩ := exE (zaC l'); rw [hn] at bQ ⊢; have hnb : n <= 25165920 := by
  have : l'.length * 2097160 <= 12 * 2097160 := zmu _ fU; exact zm0 bQ this
 have gI : ∀ W : World, (Instr.makeSlice 44 (.int .i64 (n : Int)) (.int .i64 (n : Int))).run prog W = .ok (.slice (some ⟨W.heap.size, 0, none⟩) n n) (W.alloc (.cells (madeCells #[.int .u8 0] n) 5)) := fun W =>
  run_make_row' (P := prog) 44 5 (.int .u8 0) 1 underlying44 zff rfl .i64 .i64 n (by omega) (by omega) W
 have gc : Fr (fun k => v.ownBlock = some k) w w2 := dE.trans aq (fun _ _ e => e.elim); have hM := zdx _ v l' w2.heap.size n n (w2.alloc (.cells (madeCells #[.int .u8 0] n) 5)) (cX.fr ((znl (fun _ => False) w2).alloc _) z_i)
  (fun e => zm1 _ (zmG (hlt _ e) gc.size)) (by omega) mf (buf_new w2 n) hn.symm (zmt _) (by omega)
 have hbne : w.heap.size ≠ w2.heap.size := Nat.ne_of_lt hb2.lt; have iS : Fr (fun k => v.ownBlock = some k) w (w2.alloc (.cells (madeCells #[.int .u8 0] n) 5)) := gc.alloc _; have hb3 := hb2.alloc (.cells (madeCells #[.int .u8 0] n) 5); have H := zmh (zm8 et (zm8 mc (zm8 iS (zm8 hb3 (zm8 hlt gc.size)))))
 clear HO HS au cX dE gc fE hb2 hf aq mf bQ hn hlt et mc iS hb3 mD fU; go_wp2_with (first | (go_at_call 209; refine hM.mono ?_; rintro r w3 ⟨rfl, gW, bL⟩; have hY := zkD w2.heap.size n n (zay l') w3 gW) | (go_at_call 210; refine hY.mono ?_; rintro r w4 ⟨rfl, rfl⟩; have qw := H.out.2.2.2.1.fr bL hbne; have c4 := qw.cell 0; have f4 := qw.frozen 0))
 have cg := qw.set_ 0 (.string ⟨(zay l').toArray⟩); obtain ⟨h1, h2, h3, _, hlt, bD⟩ := H.out; have hF4 : Fr (fun k => v.ownBlock = some k) w w3 := h3.trans (S' := fun k => k = w2.heap.size) bL (fun k hk e => by subst e; omega)
 have hF5 : Fr (fun k => v.ownBlock = some k) w (w3.setCell ⟨w.heap.size, 0, none⟩ (.string ⟨(zay l').toArray⟩)) := hF4.setCell (p := ⟨w.heap.size, 0, none⟩) (.inr (zmt _)) _; have gR : Blk (w3.setCell ⟨w.heap.size, 0, none⟩ (.string ⟨(zay l').toArray⟩)) w.heap.size 99 #[.string (zau l')] := cg; clear cg
 generalize w3.setCell ⟨w.heap.size, 0, none⟩ (.string ⟨(zay l').toArray⟩) = w5 at gR hF5 ⊢; refine bodyPost_ret (results_cell_row (P := prog) rfl _ _ w.heap.size 99 #[.string (zau l')] (0, 0) _ rfl gR underlying99 rfl (by kernel_rfl)) rfl ?_; exact ⟨l', h1, h2, rfl, hF5⟩
theorem made_any (P : Nat -> Prop) (v : Value) (l : List Lab) (w : World) (h : Sl P w v 2 l.length (l.flatMap zaK)) (hl : l.length <= 12) (hs : ∀ p ∈ l, p.1.size <= 1048576 /\ p.2.size <= 1048576) :
 Calls prog 54 #[v] w (LabMade l (fun _ => False) w) := by
 have hw : ∀ o, Sl P (w.alloc o) v 2 l.length (l.flatMap zaK) := fun o => h.fr ((znl (fun _ => False) w).alloc o) z_i; have hP := pairs_any P v l _ (hw (.cells #[.string ⟨#[]⟩] 99)) (by omega); clear h hw; go_enter func54, ntmps54; go_wp2_with (go_at_call 149; refine hP.mono ?_; rintro r w1 ⟨v1, rfl, ab, hf⟩)
 refine (new_any _ v1 l w1 ab hl hs).mono ?_; rintro r w2 ⟨l', h1, h2, rfl, aq⟩; have fE : Blk w1 w.heap.size 99 #[.string ⟨#[]⟩] := (znm w 99 _).fr hf id; have hlo : ∀ k, v1.ownBlock = some k -> w.heap.size < k := fun k hk => by
  have := (ab.lt k hk).1; rw [World.size_alloc] at this; exact this
 have hb1 : Blk w2 w.heap.size 99 #[.string ⟨#[]⟩] := fE.fr aq (fun e => zm1 _ (hlo _ e)); have c1 := hb1.cell 0; have f1 := hb1.frozen 0; have hF : z_F w w2 := ((znl _ w).alloc _).same hf |>.trans aq (fun k hk e => Nat.lt_asymm hk (hlo k e)); go_wp2; have cg := hb1.set_ 0 (.string (zau l'))
 have hF5 : z_F w (w2.setCell ⟨w.heap.size, 0, none⟩ (.string (zau l'))) := hF.setCell (p := ⟨w.heap.size, 0, none⟩) (.inr (zmt _)) _; have gR : Blk (w2.setCell ⟨w.heap.size, 0, none⟩ (.string (zau l'))) w.heap.size 99 #[.string (zau l')] := cg; clear cg; generalize w2.setCell ⟨w.heap.size, 0, none⟩ (.string (zau l')) = w5 at gR hF5 ⊢
 refine bodyPost_ret (results_cell_row (P := prog) rfl _ _ w.heap.size 99 #[.string (zau l')] (0, 0) _ rfl gR underlying99 rfl (by kernel_rfl)) rfl ?_; exact ⟨l', h1, h2, rfl, hF5⟩
theorem zgU {s : ByteArray} {i : Nat} {r : List UInt8} (h : s.data.toList.drop i = r) (j : Nat) (c : UInt8) (hj : r[j]? = some c) : ∃ h : i + j < s.size, s[i + j] = c := by
 subst h; rw [List.getElem?_drop] at hj; have hlt : i + j < s.data.toList.length := by
  rcases zmK (i + j) s.data.toList.length with h | h
  ·exact h
  ·rw [zmL h] at hj; cases hj
 have hlt2 : i + j < s.size := by rw [<- znb] at hlt; exact hlt
 refine ⟨hlt2, ?_⟩; rw [zmj hlt] at hj; injection hj
theorem zdt (s : ByteArray) (i v : Nat) (r : List UInt8) (hv : v < 16777216) (hi : i <= 1099511627776) (h : s.data.toList.drop i = zbt v ++ r) (w : World) :
 Calls prog 150 #[.string s, .int .i64 i] w fun e w' => e = .returned (.tuple #[.int .i64 v, .int .i64 (i + zaB v : Nat)]) /\ z_F w w' := by
 by_cases hlt : v < 255
 ·have e1 : zaB v = 1 := if_pos hlt
  rw [e1]; have e2 : zbt v = [UInt8.ofNat v] := if_pos hlt; rw [e2] at h; obtain ⟨h0, jy⟩ := zgU h 0 (UInt8.ofNat v) rfl; rw [Nat.add_zero] at h0; have hs0' : s[i] = UInt8.ofNat v := jy; have e3 : ((UInt8.ofNat v).toNat : Int) = v := by simp; omega
  have h1 : ¬ (v : Int) = 255 := by omega
  clear h jy; go_enter func150, ntmps150; go_wp2; refine bodyPost_ret (results_tmp2 rfl _ _ _) rfl ?_; refine ⟨?_, znl _ _⟩; have e4 : (v : Int) % 256 = v := by omega
  simp [e4]
 ·have e1 : zaB v = 4 := znd hlt
  rw [e1]; have e2 : zbt v = [255, UInt8.ofNat v, UInt8.ofNat (v / 256), UInt8.ofNat (v / 65536)] := znd hlt; rw [e2] at h; obtain ⟨h0, jy⟩ := zgU h 0 255 rfl; obtain ⟨h1, bh⟩ := zgU h 1 (UInt8.ofNat v) rfl; obtain ⟨h2, ek⟩ := zgU h 2 (UInt8.ofNat (v / 256)) rfl; obtain ⟨h3, hs3⟩ := zgU h 3 (UInt8.ofNat (v / 65536)) rfl; rw [Nat.add_zero] at h0
  have hs0' : s[i] = 255 := jy; have ix : ∀ (a : Int) (j : Nat) (c : UInt8) (hj : j < s.size) (hc : s[j] = c) (ha : a = j) (W : World), (Instr.index 9 (.string s) (.int .i64 a)).run prog W = .ok (.int .u8 c.toNat) W := by
   intro a j c hj hc ha W; subst ha; rw [run_index_string W 9 s .i64 j underlying9]; simp [hj, hc]
  have x1 := ix (i + 1) (i + 1) _ h1 bh (by omega); have x2 := ix (i + 1 + 1) (i + 2) _ h2 ek (by omega); have x3 := ix (i + 1 + 2) (i + 3) _ h3 hs3 (by omega); clear h jy ix; go_enter func150, ntmps150; go_wp2; go_big_region
  all_goals go_wp2
  refine bodyPost_ret (results_tmp2 rfl _ _ _) rfl ?_; refine ⟨?_, (znl _ _).drew⟩; have e5 : (v : Int) % 256 + (v : Int) / 256 % 256 * 256 + (v : Int) / 65536 % 256 * 65536 = v := by omega
  have e6 : (i : Int) + 1 + 3 = ((i + 4 : Nat) : Int) := by omega
  simp [e5, e6]
theorem zlN {s : ByteArray} {i : Nat} {a : ByteArray} {r : List UInt8} (h : s.data.toList.drop i = a.data.toList ++ r) : s.extract i (i + a.size) = a := by
 apply ByteArray.ext; apply Array.toList_inj.1; rw [Lib.extract_data, h, Nat.add_sub_cancel_left, znb, List.take_left']; rfl
theorem zcq {s : ByteArray} {i : Nat} {a r : List UInt8} (h : s.data.toList.drop i = a ++ r) : s.data.toList.drop (i + a.length) = r := by
 rw [<- List.drop_drop, h, List.drop_left]
theorem zds {s : ByteArray} {i : Nat} {a r : List UInt8} (h : s.data.toList.drop i = a ++ r) (hi : i <= s.size) : i + a.length <= s.size := by
 have h2 : (s.data.toList.drop i).length = (a ++ r).length := by rw [h]
 rw [List.length_drop, zmi, <- znb] at h2; omega
theorem zd5 (s a : ByteArray) (i : Nat) (r : List UInt8) (hv : a.size < 16777216) (hi : i <= s.size) (hs : s.size <= 1099511627776) (h : s.data.toList.drop i = zbt a.size ++ (a.data.toList ++ r)) (w : World) :
 Calls prog 158 #[.string s, .int .i64 i] w fun e w' => e = .returned (.tuple #[.string a, .int .i64 (i + zaB a.size + a.size : Nat)]) /\ z_F w w' := by
 have hD := zdt s i a.size _ hv (by omega) h w; have h2 := zcq h; have hl := zds h hi; rw [zbX] at h2 hl; have hE := zlN h2; have iF := zds h2 hl; have e1 : a.data.toList.length = a.size := by rw [<- znb]
 rw [e1] at iF; clear h h2 e1; generalize i + zaB a.size = j at hD hE hl iF ⊢; have au : ∀ W : World, (Instr.slice 9 (.string s) (some (.int .i64 (j : Int))) (some (.int .i64 ((j : Int) + a.size))) none).run prog W = .ok (.string a) W := fun W => by
  rw [run_slice_string W 9 s .i64 .i64 j (j + a.size) underlying9 (by omega) (by omega) (by omega)]; have e2 : ((j : Int) + a.size).toNat = j + a.size := by omega
  rw [e2, Int.toNat_natCast, hE]
 go_enter func158, ntmps158; go_wp2_with (go_at_call 150; refine hD.mono ?_; rintro e w1 ⟨rfl, hf⟩)
 refine bodyPost_ret (results_tmp2 rfl _ _ _) rfl ?_; exact ⟨by simp, hf⟩
theorem zeF (l : List Lab) : (zau l).size = zaC l := by
 rw [<- zh3]; rfl
theorem ziJ (l : List Lab) (g : FuncId) (cb : Array Value) (eg : ∀ args w, (callFunc g args).run prog w = .ok (.enter g args) w) (J : Nat -> World -> Prop) (w : World)
 (hs : ∀ p ∈ l, p.1.size < 16777216 /\ p.2.size < 16777216) (bD : zaC l <= 1099511627776)
 (hJ : ∀ k W W', J k W -> z_F W W' -> J k W') (h0 : J 0 w)
 (step : ∀ k x W, l[k]? = some x -> J k W -> Blk W w.heap.size 99 #[.string (zau l)] -> Calls prog g (#[.agg #[.string x.1, .string x.2]] ++ cb) W fun r w' => r = .returned (.tuple #[]) /\ J (k + 1) w' /\ Blk w' w.heap.size 99 #[.string (zau l)]) :
 Calls prog 152 #[.agg #[.string (zau l)], .func (.func g) #[] cb] w fun r w' => r = .returned (.tuple #[]) /\ J l.length w' := by
 have nk : (zau l).size <= 1099511627776 := by rw [zeF]; exact bD
 have nD : (zau l).data.toList.drop 0 = zay (l.drop 0) := by simp [zau]
 have J1 : J 0 (w.alloc (.cells #[.string (zau l)] 99)) := hJ 0 w _ h0 ((znl _ w).alloc _); have B1 : Blk (w.alloc (.cells #[.string (zau l)] 99)) w.heap.size 99 #[.string (zau l)] := znm w 99 _; generalize hS : zau l = s at *
 have STEP := zmh step; have HJ := zmh hJ; have HS := zmh hs; have HJ1 := zmh J1; have cE := zmh B1; have jd := zmh nD; clear step hJ hs J1 B1 nD h0 hS; go_enter func152, ntmps152; go_wp2
 go_loopw [4] (fun vi wr => ∃ (i k : Nat), vi = .int .i64 i /\ k <= l.length /\ i <= s.size /\ Hid (s.data.toList.drop i = zay (l.drop k)) /\ Hid (J k wr) /\ Hid (Blk wr w.heap.size 99 #[.string s])) (fun vi _ => s.size - (intOf vi).toNat)
 case atStart => exact ⟨0, 0, rfl, zms _, zms _, jd, HJ1, cE⟩
 case round =>
  obtain ⟨i, k, rfl, hk, hi, HD, HJk, HB⟩ := hrel; have c0 : wr.cell? ⟨w.heap.size, 0, none⟩ = some (.string s) := HB.out.cell 0; by_cases hlt : k < l.length
  ·obtain ⟨x, hx⟩ : ∃ x, l[k]? = some x := ⟨_, zmj hlt⟩
   have ej := HS.out x (zmp hx); have hD : s.data.toList.drop i = zbt x.1.size ++ (x.1.data.toList ++ (zbt x.2.size ++ (x.2.data.toList ++ zay (l.drop (k + 1))))) := by
    rw [HD.out, zdp l k x hx]; simp [zcS]
   have q1 := fun W => zd5 s x.1 i _ ej.1 hi nk hD W; have d1 := zds hD hi; have h2 := zcq hD; have d2 := zds h2 d1; have h3 := zcq h2; have e1 : x.1.data.toList.length = x.1.size := by rw [<- znb]
   rw [zbX, e1] at h3 d2; obtain ⟨i2, iH⟩ := exE (i + zaB x.1.size + x.1.size); rw [iH] at h3 d2; have q2 := fun W => zd5 s x.2 i2 _ ej.2 d2 nk h3 W; have d3 := zds h3 d2; have h4 := zcq h3; have d4 := zds h4 d3; have h5 := zcq h4; have e2 : x.2.data.toList.length = x.2.size := by rw [<- znb]
   rw [zbX, e2] at h5 d4; obtain ⟨i3, nz⟩ := exE (i2 + zaB x.2.size + x.2.size); rw [nz] at h5 d4; simp only [iH] at q1; simp only [nz] at q2; have fP : 0 < zaB x.1.size := by unfold zaB; split <;> omega
   have iD : i < s.size := by omega
   have hgo : i < i3 := by omega
   have H5 := zmh h5; have HX := zmh hx; clear hD d1 h2 h3 d2 d3 h4 h5 e1 e2 hx iH nz ej fP
   go_wp2_with (first
    | (go_at_call_of 158 (Value.int .i64 (i : Int)); refine (q1 _).mono ?_; rintro r w1 ⟨rfl, ah⟩; have dg := zmh (HB.out.fr ah id); have HJ2 := zmh (HJ.out _ _ _ HJk.out ah); have c1 := dg.out.cell 0)
    | (go_at_call_of 158 (Value.int .i64 (i2 : Int)); refine (q2 _).mono ?_; rintro r w2 ⟨rfl, aq⟩; have bH := zmh (dg.out.fr aq id); have HJ3 := zmh (HJ.out _ _ _ HJ2.out aq))
    | (go_at_fn g; refine (STEP.out k x _ HX.out HJ3.out bH.out).mono ?_; rintro r w3 ⟨rfl, hj4, qw⟩))
   exact ⟨⟨i3, k + 1, rfl, hlt, d4, H5, zmh hj4, zmh qw⟩, by show s.size - ((i3 : Int)).toNat < s.size - ((i : Int)).toNat; omega⟩
  ·obtain rfl : k = l.length := by omega
   have hD := HD.out; rw [List.drop_length] at hD; have iH : i = s.size := by
    have h := zm7 List.length hD; rw [List.length_drop, <- znb] at h; simp [zay] at h; omega
   subst iH; have iD : ¬ ((s.size : Int) < s.size) := by omega
   go_wp2; go_end0; exact ⟨rfl, HJk.out⟩
end Go.Proofs.YtbkookiigkckdaaGreatDoor
namespace Go.Proofs.YtbkookiigkckdaaGreatDoor
open Go.RowKit Go.Sort Go.Proofs.Tryz
def ltL (a b : Lab) : Bool := nlt a.1 b.1
theorem zcx (a : Lab) : ltL a a = false := by simp [ltL, nlt, List.lt_irrefl]
theorem zc4 (a b c : Lab) (h1 : ltL a b = true) (h2 : ltL b c = true) : ltL a c = true := by
 simp only [ltL, nlt, decide_eq_true_eq] at *; exact List.lt_trans h1 h2
theorem zcw (a b c : Lab) (h1 : ltL a b = false) (h2 : ltL b c = false) : ltL a c = false := by
 simp only [ltL, nlt, decide_eq_false_iff_not, List.not_lt] at *
 exact List.le_trans h2 h1
abbrev zaI (l : List Lab) : List Lab := ziQ ltL l
theorem ziO : ∀ (l : List Lab), l.Pairwise (fun a b => a.1 ≠ b.1) -> ∀ a ∈ l, ∀ b ∈ l, a.1 = b.1 -> a = b
 | [], _, a, ha, _, _, _ => by cases ha
 | x :: l, h, a, ha, b, hb, e => by
   obtain ⟨h1, h2⟩ := List.pairwise_cons.mp h; rcases List.mem_cons.mp ha with ea | cy
   ·subst ea
    rcases List.mem_cons.mp hb with eb | hb2
    ·exact eb.symm
    ·exact absurd e (h1 b hb2)
   ·rcases List.mem_cons.mp hb with eb | hb2
    ·subst eb
     exact absurd e.symm (h1 a cy)
    ·exact ziO l h2 a cy b hb2 e
theorem zf7 (l l' : List Lab) (hp : l'.Perm l) (hs : l'.Pairwise (fun a b => nlt b.1 a.1 = false)) (hu : l.Pairwise (fun a b => a.1 ≠ b.1)) : l' = zaI l := by
 obtain ⟨h1, h2⟩ := zbW ltL zc4 zcx zcw l; refine zhl ltL (zaI l) l' (hp.trans h2.symm) h1 hs ?_; intro a ha b hb h3 h4; refine ziO l hu a (h2.mem_iff.mp ha) b (h2.mem_iff.mp hb) ?_; simp only [ltL, nlt, decide_eq_false_iff_not, List.not_lt] at h3 h4; have h5 : a.1.data.toList = b.1.data.toList := List.le_antisymm h4 h3
 exact ByteArray.ext (Array.toList_inj.1 h5)
end Go.Proofs.YtbkookiigkckdaaGreatDoor
namespace Go.Proofs.YtbkookiigkckdaaGreatDoor
open Go.RowKit Go.Proofs.Tryz
theorem cutTo {t e : TypeId} {sz : Nat} (he : prog.elem t = e) (ht : prog.underlying t = some (.slice e)) (hs : ∀ W, (sizeOf e).run prog W = .ok sz W) (A : Option Addr) (n c k : Nat) (kd : IntKind) (x : Int) (hx : x = k) (hk : k <= c) (W : World) :
 (Instr.slice t (.slice A n c) none (some (.int kd x)) none).run prog W = .ok (.slice A k c) W := by
 subst hx; subst he; rw [run_slice_h (P := prog) W t A n c ht kd k (by omega) (by omega), hs]; have e0 : ∀ a : Addr, a.add 0 = a := fun a => by unfold Addr.add; split <;> simp_all
 cases A <;> simp [Result.andThen, sliced, e0]
theorem yolo_at (g off c : Nat) (bs : List UInt8) (w : World) (h : ∀ j b, bs[j]? = some b -> w.cell? ⟨g, off + j, none⟩ = some (.int .u8 b.toNat)) : Calls prog 210 #[.slice (some ⟨g, off, none⟩) bs.length c] w fun r w' => r = .returned (.string ⟨bs.toArray⟩) /\ w = w' := by
 have hc := run_convert_bytes_back (P := prog) w 44 9 5 ⟨g, off, none⟩ c bs underlying44 underlying5 underlying9 (fun j hj => by
  have e1 : (⟨g, off, none⟩ : Addr).add j = ⟨g, off + j, none⟩ := by unfold Addr.add; split <;> simp_all
  rw [e1, h j _ (zmj hj)])
 generalize bs.length = n at hc ⊢; clear h; go_enter func210, ntmps210; go_wp2; go_ret; exact ⟨rfl, rfl⟩
def zjr (te : TypeId) (pe : Value) (w : World) (d g : Nat) (cur : Array Value) (s : ByteArray) (st : St) (r : Ending) (w' : World) : Prop :=
 ∃ g' off c : Nat, r = .returned (.slice (some ⟨g', off, none⟩) s.data.toList.length c) /\ g' ≠ d /\ (∀ j b, s.data.toList[j]? = some b -> w'.cell? ⟨g', off + j, none⟩ = some (.int .u8 b.toNat)) /\ Dec te pe w' d g cur st /\ Fr (fun k => k = d) w w'
theorem gStr_none {st : St} (h : (gUv st).2 = none) : zce st = (⟨#[]⟩, none) := by unfold zce; rw [h]
theorem zlw {st : St} {r : List UInt8} (h : (gUv st).2 = some r) (hn : r.length < (gUv st).1) : zce st = (⟨#[]⟩, none) := by unfold zce; rw [h]; simp only []; rw [if_pos hn]
theorem gStr_long {st : St} {r : List UInt8} (h : (gUv st).2 = some r) (hn : ¬ r.length < (gUv st).1) : zce st = (⟨(r.take (gUv st).1).toArray⟩, some (r.drop (gUv st).1)) := by unfold zce; rw [h]; simp only []; rw [znd hn]
theorem zik (te : TypeId) (pe : Value) (d g : Nat) (cur : Array Value) (st : St) (w : World) (h : Dec te pe w d g cur st) (hn : (gUv st).1 < 9223372036854775808) :
 Calls prog 203 #[.pointer (some ⟨d, 0, none⟩)] w (zjr te pe w d g cur (zce st).1 (zce st).2) := by
 have hU := zlW te pe d g cur st w h; clear h; rcases bg : (gUv st).2 with _ | r
 ·rw [gStr_none bg]
  rw [bg] at hU; generalize (gUv st).1 = n at hn hU; clear bg; go_enter func203, ntmps203; go_wp2_with (go_at_call 171; refine hU.mono ?_; rintro e w1 ⟨rfl, ⟨rest, HD⟩, hf⟩; have H := zmh HD; obtain ⟨off, c, hb, hg, hl, hm, hr, hE⟩ := HD; have bP := hb.cell 1; simp at bP; have HB := zmh hb; have HF := zmh hf; clear hb hg hr hf)
  go_ret; refine ⟨w1.heap.size, 0, _, rfl, fun e => ?_, fun j b hj => by simp at hj, ⟨rest, ?_⟩, HF.out.alloc _⟩
  ·have := HB.out.lt; omega
  ·obtain ⟨off, c, hb, hg, hl, hm, hr, hE⟩ := H.out
   exact ⟨off, c, hb.alloc _, hg.alloc _, hl, hm, hr, by rw [((znl (fun _ => False) w1).alloc _).cell (p := ⟨2, 0, none⟩) (zmo w1 _ hE) id]; exact hE⟩
 ·by_cases hlt : r.length < (gUv st).1
  ·rw [zlw bg hlt]
   rw [bg] at hU; generalize (gUv st).1 = n at hn hlt hU; clear bg; obtain ⟨m, hm0⟩ := exE r.length; rw [hm0] at hlt; have hlt' : (m : Int) < n := by omega
   have hwr : wrap64 (n : Int) = n := by unfold wrap64; omega
   go_enter func203, ntmps203
   go_wp2_with (go_at_call 171; refine hU.mono ?_; rintro e w1 ⟨rfl, HD, hf⟩; have HD : DecOk (.iface te pe) w1 d g cur r .nilIface := HD; have H := zmh HD; obtain ⟨off, c, hb, hg, hl, hm, hr, hE⟩ := HD; rw [hm0] at hb hl hm; have fe := hb.cell 0; have bP := hb.cell 1; simp at fe bP; have ay := hb.frozen 1; have HB := zmh hb; have HF := zmh hf; have HR := zmh hr; clear hb hg hr hf)
   go_ret; refine ⟨w1.heap.size, 0, 0, by simp [World.setCell], fun e => ?_, fun j b hj => by simp at hj, ⟨r, ?_⟩, (HF.out.setCell (p := ⟨d, 1, none⟩) (.inl rfl) _).alloc _⟩
   ·have := HB.out.lt; omega
   ·have hm2 := H.out.move (Fr.at_ w1 d 1 (.iface te pe)) (E' := .iface te pe) (rest' := r) (off' := off) (c' := c) (by rw [hm0]; simpa using HB.out.set_ 1 (Value.iface te pe)) (by rw [hm0]; exact hl) (by rw [hm0]; exact hm) HR.out
    obtain ⟨off, c, hb, hg, hl, hm, hr, hE⟩ := hm2; exact ⟨off, c, hb.alloc _, hg.alloc _, hl, hm, hr, by rw [((znl (fun _ => False) _).alloc _).cell (p := ⟨2, 0, none⟩) (zmo _ _ hE) id]; exact hE⟩
  ·rw [gStr_long bg hlt]
   rw [bg] at hU; generalize (gUv st).1 = n at hn hlt hU ⊢; clear bg; obtain ⟨m, hm0⟩ := exE r.length; rw [hm0] at hlt; have bQ : n <= m := Nat.le_of_not_lt hlt; have hlt' : ¬ (m : Int) < n := by omega
   have hwr : wrap64 (n : Int) = n := by unfold wrap64; omega
   go_enter func203, ntmps203
   go_wp2_with (go_at_call 171; refine hU.mono ?_; rintro e w1 ⟨rfl, HD, hf⟩; have HD : DecOk (.iface te pe) w1 d g cur r .nilIface := HD; have H := zmh HD; obtain ⟨off, c, hb, hg, hl, hm, hr, hE⟩ := HD; rw [hm0] at hb hl hm; have fe := hb.cell 0; have bP := hb.cell 1; simp at fe bP; have az := hb.frozen 0; have HB := zmh hb; have HF := zmh hf; have HR := zmh hr; have hdg := znn hg hb (by decide); have HG := zmh hg; obtain ⟨off', ho, nv⟩ := zl3 g off m c n .u64 n rfl bQ; have HO := zmh ho; have nd := cutTo zko underlying44 size5 (some ⟨g, off, none⟩) m c n .u64 n rfl (zm0 bQ hl); clear hb hg hr hf ho)
   go_ret; have hcut := DecOk.cut H.out (znl _ _) HB.out HR.out hm0 hl hm bQ HO.out; refine ⟨g, off, c, ?_, hdg, fun j b hj => ?_, hcut, HF.out.setCell (p := ⟨d, 0, none⟩) (.inl rfl) _⟩
   ·have e1 : (⟨(r.take n).toArray⟩ : ByteArray).data.toList.length = n := by simp; omega
    rw [e1]; rfl
   ·have e1 : (⟨(r.take n).toArray⟩ : ByteArray).data.toList = r.take n := by simp
    rw [e1, List.getElem?_take] at hj; split at hj
    ·have h2 := HR.out j (.int .u8 b.toNat) (by rw [zd6, hj]; rfl)
     rw [((HG.out).far (p := ⟨d, 0, none⟩) hdg _).cell, h2]
    ·cases hj
def Bld (w : World) (b0 d : Nat) (l : List Lab) (o : ByteArray) : Prop := ∃ v x, Blk w d 119 #[v, .string o, x] /\ w.ownsRow b0 108 2 v l.length (l.flatMap zaK)
theorem Bld.fr {w w' : World} {b0 d : Nat} {l : List Lab} {o : ByteArray} {S : Nat -> Prop} (h : Bld w b0 d l o) (hf : Fr S w w') (hd : ¬ S d) (hs : ∀ g, w.heap[g]?.isSome -> (∃ cs, Blk w g 108 cs) -> ¬ S g) : Bld w' b0 d l o := by
 obtain ⟨v, x, hb, ho⟩ := h; refine ⟨v, x, hb.fr hf hd, zai ho hf (fun g hg e => ?_)⟩; rcases ho.2 with ⟨rfl, _⟩ | ⟨g', c, cur, rfl, _, hh, _⟩
 ·simp [Value.ownBlock] at hg
 ·obtain rfl : g' = g := by simpa [Value.ownBlock] using hg
  exact hs g' (by rw [hh]; rfl) ⟨cur, hh⟩ e
theorem own_none {w : World} {base : Nat} {e : TypeId} {size n c : Nat} {A : Option Addr} {xs : List Value} (h : w.ownsRow base e size (.slice A n c) n xs) : w.ownsRow base e size (.slice A 0 c) 0 [] := by
 rcases h.2 with ⟨hv, _⟩ | ⟨g, aK, cur, hv, hb, hh, hn, hm, im, ht⟩
 ·injection hv with h1 h2 h3
  subst h1 h3; exact zmv _ _ _ _
 ·injection hv with h1 h2 h3
  subst h1 h3; exact ⟨by simp, .inr ⟨g, c, cur, rfl, hb, hh, zms _, hm, im, by simp⟩⟩
theorem elem115' : prog.elem 115 = 108 := by kernel_rfl
theorem size108 (w : World) : (sizeOf 108).run prog w = .ok 2 w := by kernel_rfl
theorem zgN (w : World) : Calls prog 134 #[] w fun r w' => r = .returned (.agg #[.string ⟨#[]⟩]) /\ z_F w w' := by
 have hB := znm w 99 #[.string ⟨#[]⟩]; have c0 := hB.cell 0; have f0 := hB.frozen 0; have gR := hB; go_enter func134, ntmps134; go_wp2; refine bodyPost_ret (results_cell_row (P := prog) rfl _ _ w.heap.size 99 #[.string ⟨#[]⟩] (0, 0) _ rfl gR underlying99 rfl (by kernel_rfl)) rfl ?_; exact ⟨rfl, (znl _ w).alloc _⟩
theorem reset_any (b0 d : Nat) (l : List Lab) (o : ByteArray) (w : World) (h : Bld w b0 d l o) :
 Calls prog 202 #[.pointer (some ⟨d, 0, none⟩)] w fun r w' => r = .returned (.tuple #[]) /\ Bld w' b0 d [] ⟨#[]⟩ /\ Fr (fun k => k = d) w w' := by
 obtain ⟨v, x, hb, ho⟩ := h; obtain ⟨A, c, rfl⟩ := zaa ho; have nd := fun n : Nat => cutTo elem115' underlying115 size108 A l.length c 0 .i64 0 rfl (zms _); have hcut := own_none ho; have c0 := hb.cell 0; have f0 := hb.frozen 0; simp at c0
 have hb1 : Blk (w.setCell ⟨d, 0, none⟩ (.slice A 0 c)) d 119 #[.slice A 0 c, .string o, x] := by simpa using hb.set_ 0 (.slice A 0 c)
 have dK : (w.setCell ⟨d, 0, none⟩ (.slice A 0 c)).ownsRow b0 108 2 (.slice A 0 c) 0 [] := zai (S := fun k => k = d) hcut (Fr.at_ w d 0 _) (fun g hg e => zak hcut hb (by decide) (by rw [hg]; exact zm7 some e)); have hE := zgN (w.setCell ⟨d, 0, none⟩ (.slice A 0 c)); have HB := zmh hb1; have HO := zmh dK; have hto0 := nd 0; generalize l.length = n at c0 hto0
 clear hb ho hcut hb1 dK nd; go_enter func202, ntmps202; go_wp2_with (go_at_call 134; refine hE.mono ?_; rintro r w1 ⟨rfl, hf⟩; have hb2 := HB.out.fr hf id; have f1 := hb2.frozen 1; have c1 := hb2.cell 1; simp at c1)
 go_end0; refine ⟨rfl, ⟨_, _, by simpa using hb2.set_ 1 (.string ⟨#[]⟩), ?_⟩, ?_⟩
 ·have dJ := zai HO.out hf z_i
  exact zai (S := fun k => k = d) dJ (Fr.at_ w1 d 1 _) (fun g hg e => zak dJ hb2 (by decide) (by rw [hg]; exact zm7 some e))
 ·exact ((Fr.at_ w d 0 _).trans hf (fun _ _ e => e.elim)).setCell (p := ⟨d, 1, none⟩) (.inl rfl) _
def zdu (w : World) (b0 d k : Nat) : Prop := k = d ∨ (b0 <= k /\ ∃ cs, Blk w k 108 cs)
theorem zl4 (s : ByteArray) : (⟨s.data.toList.toArray⟩ : ByteArray) = s := by cases s; simp
theorem bld_push {w w1 w2 : World} {b0 d : Nat} {l : List Lab} {o : ByteArray} {v v' z : Value} {x : Lab} (hb : Blk w d 119 #[v, .string o, z]) (ho : w.ownsRow b0 108 2 v l.length (l.flatMap zaK)) (hf : z_F w w1) (fE : b0 <= w.heap.size)
 (ab : w2.ownsRow b0 108 2 v' (l.length + 1) (l.flatMap zaK ++ zaK x)) (ad : w1.grownBy w2 v.ownBlock) :
 Blk w2 d 119 #[v, .string o, z] /\ Bld (w2.setCell ⟨d, 0, none⟩ v') b0 d (l ++ [x]) o /\ Fr (zdu w b0 d) w (w2.setCell ⟨d, 0, none⟩ v') := by
 have aN := zak ho hb (by decide); have hb2 : Blk w2 d 119 #[v, .string o, z] := (hb.fr hf id).grown ad (fun e => aN e.symm); have e1 : (l ++ [x]).length = l.length + 1 := by simp
 have e2 : (l ++ [x]).flatMap zaK = l.flatMap zaK ++ zaK x := by simp
 refine ⟨hb2, ⟨v', z, by simpa using hb2.set_ 0 v', ?_⟩, ?_⟩
 ·rw [e1, e2]
  exact zai (S := fun k => k = d) ab (Fr.at_ w2 d 0 _) (fun g hg e => zak ab hb2 (by decide) (by rw [hg]; exact zm7 some e))
 ·refine ((hf.mono (S' := zdu w b0 d) (fun _ _ e => e.elim)).grown ad (fun k hk => .inl (.inr ?_))).setCell (p := ⟨d, 0, none⟩) (.inl (.inl rfl)) _
  rcases ho.2 with ⟨rfl, _⟩ | ⟨g', c, cur, rfl, bJ, hh, _⟩
  ·simp [Value.ownBlock] at hk
  ·obtain rfl : g' = k := by simpa [Value.ownBlock] using hk
   exact ⟨bJ, cur, hh⟩
theorem zhO (b0 d : Nat) (l : List Lab) (o : ByteArray) (x : Lab) (g1 o1 c1 g2 o2 c2 : Nat) (w : World) (h : Bld w b0 d l o) (fE : b0 <= w.heap.size) (hl : l.length <= 1099511627776)
 (h1 : ∀ j b, x.1.data.toList[j]? = some b -> w.cell? ⟨g1, o1 + j, none⟩ = some (.int .u8 b.toNat)) (h2 : ∀ j b, x.2.data.toList[j]? = some b -> w.cell? ⟨g2, o2 + j, none⟩ = some (.int .u8 b.toNat)) :
 Calls prog 204 #[.pointer (some ⟨d, 0, none⟩), .slice (some ⟨g1, o1, none⟩) x.1.data.toList.length c1, .slice (some ⟨g2, o2, none⟩) x.2.data.toList.length c2] w fun r w' => r = .returned (.tuple #[]) /\ Bld w' b0 d (l ++ [x]) o /\ Fr (zdu w b0 d) w w' := by
 obtain ⟨v, z, hb, ho⟩ := h; obtain ⟨A, c, rfl⟩ := zaa ho; obtain ⟨i0, aC, az, ay, aB⟩ := info_parts zh7; have q1 := yolo_at g1 o1 c1 x.1.data.toList w.drew h1; have q2 := yolo_at g2 o2 c2 x.2.data.toList w.drew h2; rw [zl4] at q1 q2; obtain ⟨a, b⟩ := x; simp only [] at q1 q2
 have k0 : w.drew.cell? ⟨d, 0, none⟩ = some (.slice A l.length c) := by have := hb.drew.cell 0; simpa using this
 have HB := zmh hb; have HO := zmh ho; clear hb ho h1 h2; generalize a.data.toList.length = n1 at q1 ⊢; generalize b.data.toList.length = n2 at q2 ⊢; go_enter func204, ntmps204; go_wp2_with fail
 refine zaQ (fun w' => w'.cell? ⟨d, 0, none⟩ = some (.slice A l.length c)) 11 (by kernel_rfl) k0 ?_; intro hS; refine wpT 0 (.pointer (some ⟨d, 0, none⟩)) rfl (by intro w; go_simp) hS ?_; try simp only [Act.put, zml, zmm, zmn]
 refine wpT 1 (.pointer (some ⟨d, 0, none⟩)) rfl (by intro w; go_simp) hS ?_; try simp only [Act.put, zml, zmm, zmn]
 refine wpT 2 (.pointer (some ⟨d, 0, none⟩)) rfl (by intro w; go_simp) hS ?_; try simp only [Act.put, zml, zmm, zmn]
 refine wpT 3 (.pointer (some ⟨d, 0, none⟩)) rfl (by intro w; go_simp) hS ?_; try simp only [Act.put, zml, zmm, zmn]
 refine wpL 4 [11, 14] (.slice A l.length c) rfl (by rintro w h1; go_simp) hS ?_; try simp only [Act.put, zml, zmm, zmn]
 refine wpT 5 (.slice (some ⟨g1, o1, none⟩) n1 c1) rfl (by intro w; go_simp) hS ?_; try simp only [Act.put, zml, zmm, zmn]
 refine wpT 7 (.slice (some ⟨g2, o2, none⟩) n2 c2) rfl (by intro w; go_simp) hS ?_; try simp only [Act.put, zml, zmm, zmn]
 refine zao 6 (by kernel_rfl) rfl (by rfl) (fun K hK => ?_); go_simp; go_at_call 210
 refine q1.mono ?_; rintro r w' ⟨rfl, rfl⟩; refine hK.out _ _ hS ?_; clear hK K; try simp only [Act.put, zml, zmm, zmn]
 refine zao 8 (by kernel_rfl) rfl (by rfl) (fun K hK => ?_); go_simp; go_at_call 210
 refine q2.mono ?_; rintro r w' ⟨rfl, rfl⟩; refine hK.out _ _ hS ?_; clear hK K; try simp only [Act.put, zml, zmm, zmn]
 refine wpT 9 (.agg #[.string a, .string b]) rfl (by intro w; go_simp) hS ?_; try simp only [Act.put, zml, zmm, zmn]
 refine zao 10 (by kernel_rfl) rfl (by rfl) (fun K hK => ?_); go_simp; refine hK.out _ _ ((HB.out.drew.alloc _).cell 0) ?_; clear hK K; try simp only [Act.put, zml, zmm, zmn]
 refine zaA 11 (by kernel_rfl) rfl (by kernel_rfl) (by rfl) (fun K hK => ?_)
 refine zaw _ _ _ 115 115 (by rfl) b0 108 i0 _ 2 32 underlying115 aC az ay aB rfl (by decide) (.slice A l.length c) l.length (l.flatMap zaK) (by rfl) (World.ownsRow.alloc (w := w.drew) HO.out (.cells (zaK (a, b)).toArray 108)) _ 1 (zaK (a, b)) (by rfl) (zaF underlying115 (znm w.drew 108 (zaK (a, b)).toArray) rfl (by simp [zaK, Value.oneCell'])) (by unfold maxLen; omega) (by omega) (by simp; omega) ?_
 intro v' w2 ac ad av
 obtain ⟨KB, KD, KF⟩ := bld_push (x := (a, b)) HB.out HO.out ((znl (fun _ => False) w).drew.alloc (.cells (zaK (a, b)).toArray 108)) fE ac ad; obtain ⟨a5, n5, k5, rfl⟩ := zab ac; have q0 := KB.cell 0; simp at q0; have z0 := KB.frozen 0; have HD := zmh (zm8 KD KF); clear KB KD KF ac ad av
 refine hK.out _ _ ?_; clear hK K hS; try simp only [Act.put, zml, zmm, zmn]
 refine zaA 12 (by kernel_rfl) rfl (by kernel_rfl) (by rfl) (fun K hK => ?_); go_simp; refine hK.out _ _ ?_; clear hK K; refine zaA 13 (by kernel_rfl) rfl (by kernel_rfl) (by rfl) (fun K hK => ?_); go_simp; refine hK.out _ _ ?_; clear hK K; refine zaA 14 (by kernel_rfl) rfl (by kernel_rfl) (by rfl) (fun K hK => ?_); go_simp; refine hK.out _ _ ?_; clear hK K
 refine zbv (by kernel_rfl) ?_ _; go_end0; exact ⟨rfl, HD.out.1, HD.out.2⟩
theorem zj3 (s : ByteArray) (w : World) : Calls prog 56 #[.agg #[.string s]] w fun r w' => r = .returned (.bool (decide (s.size = 0))) /\ z_F w w' := by
 by_cases h : s.size = 0
 ·have h' : (s.size : Int) = 0 := by omega
  rw [decide_eq_true h]; go_enter func56, ntmps56; go_wp2; go_ret; exact ⟨rfl, (znl _ w).alloc _⟩
 ·have h' : ((s.size : Int) == 0) = false := by rw [beq_eq_false_iff_ne]; omega
  rw [decide_eq_false h]; go_enter func56, ntmps56; go_wp2; go_ret; exact ⟨rfl, (znl _ w).alloc _⟩
theorem zfo (b0 d : Nat) (l : List Lab) (w : World) (h : Bld w b0 d l ⟨#[]⟩) (hl : l.length <= 4096) (hs : ∀ p ∈ l, p.1.size <= 1048576 /\ p.2.size <= 1048576) :
 Calls prog 132 #[.pointer (some ⟨d, 0, none⟩)] w fun r w' => r = .returned (.agg #[.string (zau l)]) /\ Bld w' b0 d l (zau l) /\ Fr (fun k => k = d) w w' := by
 obtain ⟨v, z, hb, ho⟩ := h; obtain ⟨A, c, rfl⟩ := zaa ho; have hdw := hb.lt; have j0 := zmh (zak ho hb (by decide)); have F1 : z_F w (w.alloc (.cells #[.string ⟨#[]⟩] 99)) := (znl _ w).alloc _; have ax : Blk (w.alloc (.cells #[.string ⟨#[]⟩] 99)) w.heap.size 99 #[.string ⟨#[]⟩] := znm w 99 _; have hQ := zj3 ⟨#[]⟩ (w.alloc (.cells #[.string ⟨#[]⟩] 99))
 have cr := hb.fr F1 id; have k1 := cr.cell 1; simp at k1; have HO := zmh ho; have aT := zmh cr; have cE := zmh ax; have bX := zmh F1; have HS := zmh hs; have bQ : zaC l <= 1099511627776 := by
  have := zdI l hs; have h : l.length * 2097160 <= 4096 * 2097160 := zmu _ hl; omega
 obtain ⟨n, hn⟩ := exE (zaC l); rw [hn] at bQ; obtain ⟨m, hm⟩ := exE l.length; have HM := zmh hm; have HN := zmh hn; rw [hm] at hl; rw [decide_eq_true (show (⟨#[]⟩ : ByteArray).size = 0 from rfl)] at hQ
 have gI : ∀ W : World, (Instr.makeSlice 44 (.int .i64 (n : Int)) (.int .i64 (n : Int))).run prog W = .ok (.slice (some ⟨W.heap.size, 0, none⟩) n n) (W.alloc (.cells (madeCells #[.int .u8 0] n) 5)) := fun W =>
  run_make_row' (P := prog) 44 5 (.int .u8 0) 1 underlying44 zff rfl .i64 .i64 n (by omega) (by omega) W
 clear hb ho hs hm hn ax F1 cr; go_enter func132, ntmps132
 go_wp2_with (first
  | (go_at_call 56; refine hQ.mono ?_; rintro r w1 ⟨rfl, ah⟩
     have ks := zmh (aT.out.fr ah id); have k2 := ks.out.cell 0; simp at k2; rw [HM.out] at k2; have qG := zmh (bX.out.same ah); have cX := zmh ((zno HO.out).fr qG.out z_i); have bn := zmh (cE.out.fr ah id); have hZ := zey _ _ l w1 cX.out (by rw [HM.out]; omega) HS.out
     rw [HM.out, HN.out] at hZ)
  | (go_at_call 208; refine hZ.mono ?_; rintro r w2 ⟨rfl, aq⟩; refine Hid.out ?_))
 have gW := bn.out.fr aq id; have lE := ks.out.fr aq id; have jw := cX.out.fr aq z_i; have iS := qG.out.same aq; have hDr := lE.alloc (.cells (madeCells #[.int .u8 0] n) 5); have hBr := gW.alloc (.cells (madeCells #[.int .u8 0] n) 5); have hnd : d ≠ w2.heap.size := Nat.ne_of_lt lE.lt; have hnb : w.heap.size ≠ w2.heap.size := Nat.ne_of_lt gW.lt
 have kd0 := hDr.cell 0; have kb0 := (World.ownsRow.lt HO.out); have hM := zdx _ _ l w2.heap.size n n (w2.alloc (.cells (madeCells #[.int .u8 0] n) 5)) (jw.fr ((znl (fun _ => False) w2).alloc _) z_i)
  (fun e => zm1 _ (zmG ((World.ownsRow.lt HO.out) _ e).2 iS.size)) (by rw [HM.out]; omega) HS.out (buf_new w2 n) HN.out.symm (zmt _) (by omega)
 rw [HM.out] at hM kd0; simp at kd0; have H3 := zmh (zm8 hBr (zm8 hDr (zm8 (iS.alloc (.cells (madeCells #[.int .u8 0] n) 5)) iS.size))); have H5 := zmh (zm8 hnd hnb); clear gW lE jw iS hDr hBr hnd hnb kb0 hQ k1 k2 hZ; refine zmh ?_
 go_wp2_with (first
  | (go_at_call 209
     refine hM.mono ?_; rintro r w4 ⟨rfl, lG, du⟩; have hY := zkD w2.heap.size n n (zay l) w4 lG; have mE := zmh (H3.out.2.1.fr du H5.out.1); have oQ := zmh (H3.out.1.fr du H5.out.2); have k4 := mE.out.cell 1; have z4 := mE.out.frozen 1; simp at k4
     have hF4 : Hid (z_F w w4) := zmh (H3.out.2.2.1.trans (S' := fun k => k = w2.heap.size) du (fun k hk e => by have := H3.out.2.2.2; omega)))
  | (go_at_call 210; refine hY.mono ?_; rintro r w5 ⟨rfl, rfl⟩; refine Hid.out ?_))
 have hdb : w.heap.size ≠ d := by omega
 have jS : Blk (w4.setCell ⟨d, 1, none⟩ (.string ⟨(zay l).toArray⟩)) d 119 #[.slice A l.length c, .string ⟨(zay l).toArray⟩, z] := by simpa using mE.out.set_ 1 (.string ⟨(zay l).toArray⟩)
 have lC := oQ.out.far (p := ⟨d, 1, none⟩) hdb (.string ⟨(zay l).toArray⟩); have hF5 : Fr (fun k => k = d) w (w4.setCell ⟨d, 1, none⟩ (.string ⟨(zay l).toArray⟩)) := (hF4.out.mono (S' := fun k => k = d) (fun _ _ e => e.elim)).setCell (p := ⟨d, 1, none⟩) (.inl rfl) _; have k5 := jS.cell 1; have k6 := lC.cell 0; have z6 := lC.frozen 0; simp at k5 k6
 have H6 := zmh (zm8 jS (zm8 lC hF5)); clear jS lC hF5 hM hY; refine zmh ?_; generalize hS : (⟨(zay l).toArray⟩ : ByteArray) = s at *
 go_wp2_with fail
 obtain ⟨jS, lC, hF5⟩ := H6.out; have hD7 := jS.far (p := ⟨w.heap.size, 0, none⟩) hdb.symm (.string s); have hR7 : Blk ((w4.setCell ⟨d, 1, none⟩ (.string s)).setCell ⟨w.heap.size, 0, none⟩ (.string s)) w.heap.size 99 #[.string s] := by simpa using lC.set_ 0 (.string s)
 have hF7 : Fr (fun k => k = d) w ((w4.setCell ⟨d, 1, none⟩ (.string s)).setCell ⟨w.heap.size, 0, none⟩ (.string s)) := hF5.setCell (p := ⟨w.heap.size, 0, none⟩) (.inr (zmt _)) _; have hO7 := zai HO.out hF7 (fun g hg e => j0.out (by rw [hg]; exact zm7 some e)); generalize (w4.setCell ⟨d, 1, none⟩ (.string s)).setCell ⟨w.heap.size, 0, none⟩ (.string s) = w7 at hD7 hR7 hF7 hO7 ⊢
 refine bodyPost_ret (results_cell_row (P := prog) rfl _ _ w.heap.size 99 #[.string s] (0, 0) _ rfl hR7 underlying99 rfl (by kernel_rfl)) rfl ?_; have hSS : zau l = s := hS; rw [hSS]; exact ⟨rfl, ⟨_, _, hD7, hO7⟩, hF7⟩
theorem zja {te : TypeId} {pe : Value} {w w' : World} {d g : Nat} {cur : Array Value} {st : St} {S : Nat -> Prop} (h : Dec te pe w d g cur st) (hf : Fr S w w') (h1 : ¬ S d) (h2 : ¬ S g) (h3 : ¬ S 2) : Dec te pe w' d g cur st := by
 have aw : ∀ rest E, DecOk (.iface te pe) w d g cur rest E -> DecOk (.iface te pe) w' d g cur rest E := by
  rintro rest E ⟨off, c, hb, hg, hl, hm, hr, hE⟩; exact ⟨off, c, hb.fr hf h1, hg.fr hf h2, hl, hm, hr, by rw [hf.cell (p := ⟨2, 0, none⟩) (zmo w _ hE) h3]; exact hE⟩
 rcases st with _ | l
 ·obtain ⟨rest, h⟩ := h
  exact ⟨rest, aw _ _ h⟩
 ·exact aw _ _ h
theorem zb6 {te : TypeId} {pe : Value} {w : World} {d g : Nat} {cur : Array Value} {st : St} (h : Dec te pe w d g cur st) : ∃ cs, Blk w d 229 cs /\ Blk w g 5 cur /\ 2 < w.heap.size := by
 rcases st with _ | l
 ·obtain ⟨rest, off, c, hb, hg, hl, hm, hr, hE⟩ := h
  exact ⟨_, hb, hg, zmo w _ hE⟩
 ·obtain ⟨off, c, hb, hg, hl, hm, hr, hE⟩ := h
  exact ⟨_, hb, hg, zmo w _ hE⟩
def DS (w : World) (b0 d d2 k : Nat) : Prop := k = d2 ∨ zdu w b0 d k
theorem DS.back {w w' : World} {b0 d d2 : Nat} (h : Fr (DS w b0 d d2) w w') (k : Nat) (hk : k < w.heap.size) (hs : DS w' b0 d d2 k) : DS w b0 d d2 k := by
 rcases Classical.em (DS w b0 d d2 k) with hy | hn
 ·exact hy
 ·rcases hs with rfl | rfl | ⟨hb, cs, hc⟩
  ·exact .inl rfl
  ·exact .inr (.inl rfl)
  ·exact .inr (.inr ⟨hb, cs, (h.block k hk hn).symm.trans hc⟩)
theorem zin {w : World} {b0 d k : Nat} {t : TypeId} {cs : Array Value} (h : Blk w k t cs) (h1 : k ≠ d) (h2 : t ≠ 108) : ¬ zdu w b0 d k := by
 rintro (e | ⟨_, jU, hc⟩)
 ·exact h1 e
 ·exact h2 (h.tag hc).1
theorem zhK {w w' : World} {b0 d d2 : Nat} {l : List Lab} {o : ByteArray} {cs : Array Value} (h : Bld w b0 d l o) (hd : Blk w d2 229 cs) (hf : Fr (fun k => k = d2) w w') : Bld w' b0 d l o := by
 obtain ⟨v, x, hb, ho⟩ := h; exact ⟨v, x, hb.fr hf (znn hb hd (by decide)), zai ho hf (fun g hg e => zak ho hd (by decide) (by rw [hg]; exact zm7 some e))⟩
theorem zdz (te : TypeId) (pe : Value) (b0 d d2 g : Nat) (cur : Array Value) (l0 : List Lab) (o0 : ByteArray) (st : St) (w : World) (hB : Bld w b0 d l0 o0) (hD : Dec te pe w d2 g cur st) (fE : b0 <= w.heap.size) (h2 : 2 < b0) (lw : b0 <= d)
 (n : Nat) (bO : St) (hgu : gUv st = (n, bO)) (hn : n <= 4096) (hu : ∀ k, k < n -> (gUv (za9 bO k).2).1 < 9223372036854775808 /\ (gUv (zce (za9 bO k).2).2).1 < 9223372036854775808)
 (hs : ∀ p ∈ (za9 bO n).1, p.1.size <= 1048576 /\ p.2.size <= 1048576) (ai : ∀ k, (za9 bO k).1.length = k) :
 Calls prog 117 #[.pointer (some ⟨d, 0, none⟩), .pointer (some ⟨d2, 0, none⟩)] w fun r w' => r = .returned (.agg #[.string (zau (za9 bO n).1)]) /\ Dec te pe w' d2 g cur (za9 bO n).2 /\ Fr (DS w b0 d d2) w w' /\ Bld w' b0 d (za9 bO n).1 (zau (za9 bO n).1) := by
 have hi : i64 n = n := by unfold i64 wrap64; omega
 have F1 : z_F w (w.alloc (.cells #[.string ⟨#[]⟩] 99)) := (znl _ w).alloc _; have eD : Blk (w.alloc (.cells #[.string ⟨#[]⟩] 99)) w.heap.size 99 #[.string ⟨#[]⟩] := znm w 99 _; have hdl : d < w.heap.size := let ⟨_, _, h, _⟩ := hB; h.lt
 have ax : Bld (w.alloc (.cells #[.string ⟨#[]⟩] 99)) b0 d l0 o0 := hB.fr F1 id (fun _ _ _ e => e); have cr := zja hD F1 id id id; have jQ := reset_any b0 d l0 o0 _ ax; have bX := zmh F1; have cR := zmh eD; have aT := zmh cr; have kG := zmh ax; have HU := zmh hu; have HS := zmh hs; have HL := zmh ai
 have HG := zmh hgu; clear F1 eD ax cr hu hs ai hB hD hgu; go_enter func117, ntmps117
 go_wp2_with (first
  | (go_at_call 202
     refine jQ.mono ?_; rintro r w1 ⟨rfl, bn, aq⟩; have ks : Dec te pe w1 d2 g cur st := by
      obtain ⟨cs, hb2, dU, hlt2⟩ := zb6 aT.out; obtain ⟨_, _, g8, _⟩ := kG.out; exact zja aT.out aq (fun e => znn hb2 g8 (by decide) e) (fun e => znn dU g8 (by decide) e) (by omega)
     have hU := zcz te pe d2 g cur st w1 ks; rw [HG.out] at hU; dsimp only at hU
     rw [hi] at hU)
  | (go_at_call 172; refine hU.mono ?_; rintro r w2 ⟨rfl, lE, bL⟩; refine Hid.out ?_))
 obtain ⟨cs2, hb2, dU, hlt2⟩ := zb6 ks; have gW := zhK bn hb2 bL; have hR3 : Blk w2 w.heap.size 99 #[.string ⟨#[]⟩] := (cR.out.fr aq (by omega)).fr bL (fun e => znn (cR.out.fr aq (by omega)) hb2 (by decide) e); have iS : Fr (DS w b0 d d2) w w2 := ((bX.out.mono (S' := DS w b0 d d2) (fun _ _ e => e.elim)).trans aq (fun k _ e => .inr (.inl e))).trans bL (fun k _ e => .inl e)
 have bH := zmh gW; have eh := zmh lE; have bG := zmh hR3; have bB := zmh iS; have hdd : d2 ≠ d := by
  obtain ⟨_, _, g8, _⟩ := bn; exact znn hb2 g8 (by decide)
 have oN : g ≠ d := by
  obtain ⟨_, _, g8, _⟩ := bn; exact znn dU g8 (by decide)
 clear gW lE hR3 iS hb2 dU bn ks aq bL hU jQ bX cR aT; refine zmh ?_; go_wp2_with fail
 go_loopw [6] (fun vi wr => ∃ k : Nat, k <= n /\ vi = .int .i64 k /\ Hid (Bld wr b0 d (za9 bO k).1 ⟨#[]⟩) /\ Hid (Dec te pe wr d2 g cur (za9 bO k).2) /\ Hid (Fr (DS w b0 d d2) w wr) /\ Hid (Blk wr w.heap.size 99 #[.string ⟨#[]⟩])) (fun vi _ => n - (intOf vi).toNat)
 case atStart => exact ⟨0, zms _, rfl, bH, eh, bB, bG⟩
 case round =>
  obtain ⟨k, hk, rfl, JB, JD, JF, JR⟩ := hrel; by_cases hlt : k < n
  ·obtain ⟨oF, kR⟩ := HU.out k hlt
   have hlk := HL.out k; obtain ⟨lk, nx⟩ := exE ((za9 bO k).1); obtain ⟨sk, nr⟩ := exE ((za9 bO k).2); have mo : za9 bO (k + 1) = (lk ++ [((zce sk).1, (zce (zce sk).2).1)], (zce (zce sk).2).2) := by
    show ((za9 bO k).1 ++ [(gLab (za9 bO k).2).1], (gLab (za9 bO k).2).2) = _; rw [nx, nr]; rfl
   rw [nx] at JB hlk; rw [nr] at JD oF kR; have q1 := zik te pe d2 g cur sk wr JD.out oF; have jm := zmh mo; clear mo nx nr; have hszw := JF.out.size
   go_wp2_with (first
    | (go_at_call 203
       refine (dc).mono ?_; rintro r w2 ⟨g2', o2, c2, rfl, hne2, aj, ks, aq⟩; have bn := zhK ax nJ aq
       have nu := zhO b0 d lk ⟨#[]⟩ ((zce sk).1, (zce (zce sk).2).1) g1' o1 c1 g2' o2 c2 w2 bn (by have := ah.size; have := aq.size; omega) (by omega) (fun j b hj => by
        have h1 := jN j b hj
        rw [aq.cell (p := ⟨g1', o1 + j, none⟩) (zmo _ _ h1) hne1]; exact h1) aj)
    | (go_at_call 203
       refine q1.mono ?_; rintro r w1 ⟨g1', o1, c1, rfl, hne1, jN, cr, ah⟩; have dc := zik te pe d2 g cur (zce sk).2 w1 cr kR; obtain ⟨cs1, lz, _, _⟩ := zb6 JD.out; obtain ⟨cs1', nJ, _, _⟩ := zb6 cr
       have ax := zhK JB.out lz ah)
    | (go_at_call 204; refine nu.mono ?_; rintro r w3 ⟨rfl, gW, bL⟩; refine Hid.out ?_))
   obtain ⟨cs3, qv, qd, _⟩ := zb6 ks; have F2 : Fr (DS w b0 d d2) w w2 := (JF.out.trans ah (fun k _ e => .inl e)).trans aq (fun k _ e => .inl e); have hR2 : Blk w2 w.heap.size 99 #[.string ⟨#[]⟩] := (JR.out.fr ah (fun e => znn JR.out lz (by decide) e)).fr aq (fun e => znn (JR.out.fr ah (fun e => znn JR.out lz (by decide) e)) nJ (by decide) e)
   have NB : Hid (Bld w3 b0 d (za9 bO (k + 1)).1 ⟨#[]⟩) := zmh (by rw [jm.out]; exact gW)
   have ND : Hid (Dec te pe w3 d2 g cur (za9 bO (k + 1)).2) := zmh (by
    rw [jm.out]
    exact zja ks bL (zin qv hdd (by decide)) (zin qd oN (by decide)) (fun e => by rcases e with e | ⟨e, _⟩ <;> omega))
   have NF : Hid (Fr (DS w b0 d d2) w w3) := zmh (Fr.trans F2 bL (fun k hk e => DS.back F2 k hk (.inr e))); have NR : Hid (Blk w3 w.heap.size 99 #[.string ⟨#[]⟩]) := zmh (hR2.fr bL (zin hR2 (by omega) (by decide))); clear gW bL ks aq bn nu aj dc cr jN ah ax lz nJ qv qd F2 hR2 q1; refine zmh ?_; go_wp2_with fail
   go_roundw
   case rel => exact ⟨k + 1, by omega, by go_num, NB, ND, NF, NR⟩
   case measure => simp [intOf]; omega
  ·obtain rfl : k = n := by omega
   have hL := zfo b0 d (za9 bO k).1 wr JB.out (by rw [HL.out]; omega) HS.out; obtain ⟨cs, g8, km, _⟩ := zb6 JD.out; have HBQ := zmh g8; have HGQ := zmh km; clear g8 km
   go_wp2_with (go_at_call 132
                refine hL.mono ?_; rintro r w4 ⟨rfl, lG, du⟩; have oQ := JR.out.fr du (show ¬ w.heap.size = d by omega); have k4 := oQ.cell 0; have z4 := oQ.frozen 0
                simp at k4)
   have lC : Blk (w4.setCell ⟨w.heap.size, 0, none⟩ (.string (zau (za9 bO k).1))) w.heap.size 99 #[.string (zau (za9 bO k).1)] := by simpa using oQ.set_ 0 (.string (zau (za9 bO k).1))
   have hF5 : Fr (DS w b0 d d2) w (w4.setCell ⟨w.heap.size, 0, none⟩ (.string (zau (za9 bO k).1))) := (JF.out.trans du (fun k _ e => .inr (.inl e))).setCell (p := ⟨w.heap.size, 0, none⟩) (.inr (zmt _)) _; have iM : d2 ≠ w.heap.size := znn HBQ.out JR.out (by decide); have hcg : g ≠ w.heap.size := znn HGQ.out JR.out (by decide)
   have jS : Dec te pe (w4.setCell ⟨w.heap.size, 0, none⟩ (.string (zau (za9 bO k).1))) d2 g cur (za9 bO k).2 :=
    zja (zja JD.out du hdd oN (by omega)) (Fr.at_ w4 w.heap.size 0 _) iM hcg (by omega)
   have oS : Bld (w4.setCell ⟨w.heap.size, 0, none⟩ (.string (zau (za9 bO k).1))) b0 d (za9 bO k).1 (zau (za9 bO k).1) := lG.fr (Fr.at_ w4 w.heap.size 0 _) (by omega) (fun g' _ hg e => by
    obtain ⟨cs, hg⟩ := hg
    exact znn hg oQ (by decide) e)
   generalize w4.setCell ⟨w.heap.size, 0, none⟩ (.string (zau (za9 bO k).1)) = w7 at lC hF5 jS oS ⊢; refine bodyPost_ret (results_cell_row (P := prog) rfl _ _ w.heap.size 99 #[.string (zau (za9 bO k).1)] (0, 0) _ rfl lC underlying99 rfl (by kernel_rfl)) rfl ?_; exact ⟨rfl, jS, hF5, oS⟩
theorem zf5 (s : ByteArray) : strOfNums (s.data.toList.map fun b => (b.toNat : Int)) = s := by
 unfold strOfNums; cases s with
 | mk d =>
   congr 1; apply Array.ext'; simp only [List.toList_toArray, znj]; exact (List.map_congr_left (fun b _ => by simp)).trans (List.map_id _)
theorem decStr (te : TypeId) (pe : Value) (d g : Nat) (cur : Array Value) (st : St) (w : World) (h : Dec te pe w d g cur st) (hn : (gUv st).1 < 9223372036854775808) :
 Calls prog 173 #[.pointer (some ⟨d, 0, none⟩)] w (zb0 te pe w d g cur (.string (zce st).1) (zce st).2) := by
 have hB := zik te pe d g cur st w h hn; generalize (zce st).1 = s at hB ⊢; generalize (zce st).2 = dQ at hB ⊢; clear h hn; unfold zjr at hB; obtain ⟨n, hn⟩ := exE s.data.toList.length; rw [hn] at hB; have HN := zmh hn; have HB := zmh hB; clear hn hB; go_enter func173, ntmps173
 go_wp2_with (go_at_call 203; refine HB.out.mono ?_; rintro r w1 ⟨g', off, c, rfl, aN, aa, hD, hf⟩; have gr := run_convert_bytes_arg (P := prog) w1 44 5 underlying44 underlying5 g' off n c (s.data.toList.map fun b => (b.toNat : Int)) (by rw [zmF]; exact HN.out) (fun i hi => by
  rw [aa i _ (zmj (by rw [HN.out]; exact hi))]; rw [<- HN.out] at hi
  simp [List.getD, zmj hi]) 9 underlying9; rw [zf5] at gr; have HD := zmh hD; have HF := zmh hf; clear aa hD hf)
 go_ret; exact ⟨rfl, HD.out, HF.out⟩
def zjn : ByteArray := ⟨#[85, 78, 73, 84]⟩
def zjo : ByteArray := ⟨#[72, 69, 76, 80]⟩
theorem zf4 (s : ByteArray) (d : Array UInt8) : (s.toList == d.toList) = true ↔ s = ⟨d⟩ := by
 rw [beq_iff_eq, Lib.toList_data]; constructor
 ·intro h
  cases s; exact zm7 ByteArray.mk (Array.ext' h)
 ·rintro rfl; rfl
theorem zf3 (s : ByteArray) (d : Array UInt8) (h : s ≠ ⟨d⟩) : (s.toList == d.toList) = false := by
 rcases hq : (s.toList == d.toList) with _ | _
 ·rfl
 ·exact absurd ((zf4 s d).1 hq) h
def gFld (p : (ByteArray × ByteArray) × St) : (ByteArray × ByteArray) × St :=
 (if (zce p.2).1 = zjn then ((zce (zce p.2).2).1, p.1.2) else if (zce p.2).1 = zjo then (p.1.1, (zce (zce p.2).2).1) else p.1, (zce (zce p.2).2).2)
def zdM (st : St) : Nat -> (ByteArray × ByteArray) × St
 | 0 => ((⟨#[]⟩, ⟨#[]⟩), st)
 | k + 1 => gFld (zdM st k)
def ziP (st : St) : St := (gUv (zaD (gUv st).2).2).2
def mtaN (st : St) : Nat := (gUv (zaD (gUv st).2).2).1
def zbe (st : St) : Mta × St :=
 (⟨(gUv st).1, UInt8.ofNat (zaD (gUv st).2).1, (zdM (ziP st) (mtaN st)).1.1, (zdM (ziP st) (mtaN st)).1.2⟩, (zdM (ziP st) (mtaN st)).2)
def zeK (st : St) : Prop := mtaN st <= 4096 /\ ∀ k, k < mtaN st -> (gUv (zdM (ziP st) k).2).1 < 9223372036854775808 /\ (gUv (zce (zdM (ziP st) k).2).2).1 < 9223372036854775808
def zaU (xs : List UInt8) : Option (List Mta) := zbn 6 zbe xs
theorem gByte_lt (st : St) : (zaD st).1 < 256 := by
 rcases st with _ | _ | ⟨b, r⟩
 ·decide
 ·decide
 ·exact b.toNat_lt
theorem gByte_len {st : St} {l : List UInt8} (h : (zaD st).2 = some l) : ∃ l0, st = some l0 /\ l.length < l0.length := by
 rcases st with _ | _ | ⟨b, r⟩
 ·cases h
 ·cases h
 ·have h : some r = some l := h
  injection h with h; subst h; exact ⟨_, rfl, by simp⟩
theorem zkY {st : St} {l : List UInt8} (h : (zce st).2 = some l) : ∃ l0, st = some l0 /\ l.length <= l0.length := by
 rcases st with _ | l0
 ·have : zce none = (⟨#[]⟩, none) := rfl
  rw [this] at h; cases h
 ·exact ⟨l0, rfl, (ziW l0 (zce (some l0)).1 (zce (some l0)).2 rfl).2 l h⟩
theorem ziY (st : St) : ∀ (k : Nat) (l : List UInt8), (zdM st k).2 = some l -> ∃ l0, st = some l0 /\ l.length <= l0.length
 | 0, l, h => ⟨l, h, zmt _⟩
 | k + 1, l, h => by
   obtain ⟨l1, h1, e1⟩ := zkY (st := (zce (zdM st k).2).2) h; obtain ⟨l2, h2, e2⟩ := zkY h1; obtain ⟨l3, h3, e3⟩ := ziY st k l2 h2; exact ⟨l3, h3, by omega⟩
theorem zjY {l0 l : List UInt8} (h : (zbe (some l0)).2 = some l) : l.length < l0.length := by
 obtain ⟨l1, h1, e1⟩ := ziY _ _ _ h; obtain ⟨l2, h2, e2⟩ := zb5 (st := (zaD (gUv (some l0)).2).2) h1; obtain ⟨l3, h3, e3⟩ := gByte_len h2; obtain ⟨l4, h4, e4⟩ := zb5 (st := some l0) h3; injection h4 with h4; subst h4; omega
def zb9 (w : World) (base : Nat) (o : Option Nat) (pre : List Mta) (xs : List UInt8) (r : Ending) (w' : World) : Prop :=
 Fr (fun k => some k = o) w w' /\ match zaU xs with
  | some l => ∃ v', r = .returned (.tuple #[v', .nilIface]) /\ w'.ownsRow base 174 4 v' (pre ++ l).length ((pre ++ l).flatMap Mta.c)
  | none => ∃ t a, r = .returned (.tuple #[.slice none 0 0, .iface t a])
theorem zex {w w' : World} {base : Nat} {o : Option Nat} {pre : List Mta} {xs : List UInt8} {t : TypeId} {a : Value} (hd : zaU xs = none) (hf : Fr (fun k => some k = o) w w') : zb9 w base o pre xs (.returned (.tuple #[.slice none 0 0, .iface t a])) w' := by
 unfold zb9; rw [hd]; exact ⟨hf, _, _, rfl⟩
theorem zg6 {w w' : World} {base : Nat} {o : Option Nat} {pre : List Mta} {xs : List UInt8} {l : List Mta} {v : Value} (hd : zaU xs = some l) (hf : Fr (fun k => some k = o) w w') (ho : w'.ownsRow base 174 4 v (pre ++ l).length ((pre ++ l).flatMap Mta.c)) : zb9 w base o pre xs (.returned (.tuple #[v, .nilIface])) w' := by
 unfold zb9; rw [hd]; exact ⟨hf, _, rfl, ho⟩
theorem zih (te : TypeId) (pe : Value) (dv : Value) (g base : Nat) (cur : Array Value) (pre : List Mta) (xs : List UInt8) (v sv : Value) (w : World) (h : Rec te pe w g cur xs v) (hx : (zaD (some xs)).1 ≠ 6) :
 Calls prog 81 #[dv, v, sv] w (zb9 w base sv.ownBlock pre xs) := by
 have hd : zaU xs = none := by
  rcases xs with _ | ⟨b, r⟩
  ·rfl
  ·have : ¬ b = 6 := by rintro rfl; exact hx rfl
   simp [zaU, zbn, this]
 unfold zb9; rw [hd]; clear hd; have hD := h.dec; obtain ⟨off, c, rfl, _⟩ := h; have hQ := zbC te pe w.heap.size g cur _ _ hD; have dS : ¬ ((zaD (some xs)).1 : Int) = 6 := by omega
 clear hD hx; generalize (zaD (some xs)).1 = x at hQ dS; generalize (zaD (some xs)).2 = st at hQ; go_enter func81, ntmps81; go_wp2_with (first | (go_at_call 160; refine hQ.mono ?_; rintro r w1 ⟨rfl, cr, ah⟩) | (go_at_call 161; refine (zbN _ _).mono ?_; rintro r w2 ⟨t, a, rfl, aq⟩))
 go_ret2; refine ⟨?_, _, _, rfl⟩; have f1 := (((znl (fun k => some k = sv.ownBlock) w).alloc (.cells #[.slice (some ⟨g, off, none⟩) xs.length c, .nilIface] 229)).trans ah (fun k hk e => by omega)); exact f1.trans aq (fun _ _ e => e.elim)
theorem zii (ak : St -> Prop) (hG : ∀ l, ak (some l) -> zeK (some l) /\ ak (zbe (some l)).2) (te : TypeId) (pe : Value) (dv : Value) (g base : Nat) (cur : Array Value) (pre : List Mta) (rest : List UInt8) (v sv : Value) (w : World) (h : Rec te pe w g cur (6 :: rest) v) (ho : w.ownsRow base 174 4 sv pre.length (pre.flatMap Mta.c)) (hb : g < base /\ 2 < base /\ base <= w.heap.size) (bx : pre.length <= 1073741824) (aZ : ak (some rest)) :
 Calls prog 81 #[dv, v, sv] w (zb9 w base sv.ownBlock pre (6 :: rest)) := by
 obtain ⟨i0, aC, az, ay, aB⟩ := info_parts info174; have ii := zmh hG; clear hG; have kC := zmh aZ; clear aZ; have hD := h.dec; obtain ⟨off, c, rfl, _⟩ := h; have hQ := zbC te pe w.heap.size g cur _ _ hD; have e1 : zaD (some (6 :: rest)) = (6, some rest) := rfl; rw [e1] at hQ; have HO := zmh ho; obtain ⟨a', k', rfl⟩ := zaa ho
 have oH : rest.length <= 1099511627776 := by
  obtain ⟨n, off', c', _, _, hn, aQ, _⟩ := hD.open_; have := hn _ rfl; simp at this; omega
 obtain ⟨np, fk⟩ := exE pre.length; have lM := zmh fk; rw [fk] at HO bx ⊢; clear hD e1 ho fk; go_enter func81, ntmps81; go_wp2_with (go_at_call 160; refine hQ.mono ?_; rintro r w1 ⟨rfl, cr, ah⟩; refine Hid.out ?_)
 have F1 : Fr (fun k => some k = (Value.slice a' np k').ownBlock) w w1 := ((znl (fun k => some k = (Value.slice a' np k').ownBlock) w).alloc _).trans ah (fun k hk e => by omega); have O1 : w1.ownsRow base 174 4 (.slice a' np k') np (pre.flatMap Mta.c) := zai (HO.out.alloc _) ah (fun k hk => by have := zaq HO.out hk; omega); have bh := F1.size
 have eM : ∀ k, (Value.slice a' np k').ownBlock = some k -> k < w.heap.size := fun k hk => zaq HO.out hk; have bX := zmh F1; have de := zmh O1; have aT := zmh cr; have ir := zmh eM; clear cr ah hQ F1 O1 eM; refine zmh ?_; go_wp2_with fail
 go_loopw [2] (fun sv wr => ∃ (st : St) (acc : List Mta) (j : Nat), Hid (Dec te pe wr w.heap.size g cur st) /\ Hid (wr.ownsRow base 174 4 sv (np + acc.length) ((pre ++ acc).flatMap Mta.c)) /\ Hid (Fr (fun k => some k = (Value.slice a' np k').ownBlock) w wr) /\ Hid (∀ k, sv.ownBlock = some k -> (some k = (Value.slice a' np k').ownBlock ∨ w.heap.size < k)) /\
  Hid (zaj zbe j st acc = zaj zbe rest.length (some rest) []) /\ Hid (∀ l, st = some l -> l.length <= j /\ acc.length + l.length <= rest.length) /\ acc.length <= rest.length + 1 /\ Hid (ak st)) (fun _ wr => zij w.heap.size wr)
 case atStart => exact ⟨some rest, [], rest.length, aT, zmh (by simpa using de.out), bX, zmh (fun k hk => .inl hk.symm), zmh rfl, zmh (fun l hl => by cases hl; simp), by simp, kC⟩
 case round =>
  obtain ⟨st, acc, j, HD, HO, HF, HB, HE, HL, mC, oo⟩ := hrel; obtain ⟨n6, iA, c6, p0, p1, cK, aQ, hd, hg, h2⟩ := HD.out.open_; have hE := zgS te pe _ _ _ _ _ HD.out; obtain ⟨a6, k6, rfl⟩ := zaa HO.out; rcases st with _ | l
  ·clear cK p1
   have aG : zaj zbe rest.length (some rest) [] = (acc, none) := by rw [<- HE.out]; unfold zaj; rcases j with _ | j <;> rfl
   have HR := zmh (show zaU (6 :: rest) = none from zcW aG); clear aG; simp only [zju] at hE; rcases zmE n6 with rfl | oJ
   ·go_wp2_with (go_at_call 119; refine hE.mono ?_; rintro r w7 ⟨rfl, rfl⟩)
    go_ret2; exact zex HR.out HF.out
   ·have bY : (0 : Int) < (n6 : Int) := by omega
    go_wp2_with (go_at_call 119; refine hE.mono ?_; rintro r w7 ⟨rfl, rfl⟩)
    go_ret2; exact zex HR.out HF.out
  ·obtain rfl : n6 = l.length := cK l rfl
   simp only [zju] at hE; rcases l with _ | ⟨x, r⟩
   ·have aG : zaj zbe rest.length (some rest) [] = (acc, some []) := by rw [<- HE.out]; unfold zaj; rcases j with _ | j <;> rfl
    have HR := zmh (show zaU (6 :: rest) = some acc from zcV aG); clear aG cK p1; simp only [zm9] at p0; go_wp2_with (go_at_call 119; refine hE.mono ?_; rintro r w7 ⟨rfl, rfl⟩)
    go_ret2; refine zg6 HR.out HF.out ?_; have h := HO.out; rw [zmi, lM.out]; exact h
   ·obtain ⟨n7, bY⟩ := exE ((x :: r).length)
    have mr : (0 : Int) < (n7 : Int) := by rw [<- bY]; simp
    have gm := HL.out _ rfl; have hM := zbo HD.out; rw [bY] at p0 gm hM; have cP := zlW te pe _ _ _ _ _ HD.out; obtain ⟨aW, bR⟩ := ii.out _ oo.out; have eV := zmh bY; obtain ⟨S0, gS⟩ : ∃ S0 : St, some (x :: r) = S0 := ⟨_, rfl⟩; rw [gS] at cP aW bR; have ic := zmh gS; have ot := zmh bR; obtain ⟨hn4, my⟩ := aW; have HFL := zmh my
    clear cK p1 bY gS bR my; obtain ⟨v0, eY⟩ := exE ((gUv S0).1); obtain ⟨S1, hS1⟩ := exE ((gUv S0).2); rw [eY, hS1] at cP
    go_wp2_with (first
     | (go_at_call 119; refine hE.mono ?_; rintro r w7 ⟨rfl, rfl⟩)
     | (go_at_call 171; refine cP.mono ?_; rintro r w8 ⟨rfl, fF, cB⟩; refine Hid.out ?_))
    have D8 := zmh fF; have ip := zbC te pe _ _ _ _ _ fF; obtain ⟨v1, cA⟩ := exE ((zaD S1).1); obtain ⟨S2, hS2⟩ := exE ((zaD S1).2); rw [cA, hS2] at ip; have F8 := zmh cB; clear fF cB cP p0; refine zmh ?_; go_wp2_with (go_at_call 160; refine ip.mono ?_; rintro r w9 ⟨rfl, fh, dY⟩; refine Hid.out ?_)
    have jP := zcz te pe _ _ _ _ _ fh; obtain ⟨nf, hnf⟩ := exE ((gUv S2).1); obtain ⟨S3, hS3⟩ := exE ((gUv S2).2); have hmn : mtaN S0 = nf := by unfold mtaN; rw [hS1, hS2, hnf]
    have ms : ziP S0 = S3 := by unfold ziP; rw [hS1, hS2, hS3]
    rw [hmn] at hn4; rw [hmn, ms] at HFL; rw [hnf, hS3, show i64 nf = (nf : Int) by unfold i64 wrap64; omega] at jP; have F9 := zmh (F8.out.same dY); clear fh dY ip D8 F8; refine zmh ?_; go_wp2_with (go_at_call 172; refine jP.mono ?_; rintro r cU ⟨rfl, gd, qi⟩; refine Hid.out ?_)
    have F10 := zmh (F9.out.same qi); have D10 := zmh gd; clear gd qi jP F9; have o9 := zmh (zm8 eY (zm8 hS1 (zm8 cA (zm8 hS2 (zm8 hnf (zm8 hS3 (zm8 hmn ms))))))); have hv1l : v1 < 256 := by rw [<- cA]; exact gByte_lt _
    clear eY hS1 cA hS2 hnf hS3 hmn ms
    have KW : Hid (∀ W, Fr (fun k => k = w.heap.size) wr W -> W.ownsRow base 174 4 (.slice a6 (np + acc.length) k6) (np + acc.length) ((pre ++ acc).flatMap Mta.c) /\ Fr (fun k => some k = (Value.slice a' np k').ownBlock) w W) := zmh (fun W hf => ⟨zai HO.out hf (fun k hk e => by
     rcases HB.out k hk with h | h
     ·have := ir.out k h.symm; omega
     ·omega), HF.out.trans hf (fun k hk e => by omega)⟩)
    refine zmh ?_; go_wp2_with fail
    go_loopw [12, 13, 14] (fun uv hv vi wq => ∃ k : Nat, k <= nf /\ vi = .int .i64 k /\ uv = .string (zdM S3 k).1.1 /\ hv = .string (zdM S3 k).1.2 /\ Hid (Dec te pe wq w.heap.size g cur (zdM S3 k).2) /\ Hid (Fr (fun k => k = w.heap.size) wr wq)) (fun _ _ vi _ => nf - (intOf vi).toNat)
    case atStart => exact ⟨0, zms _, rfl, rfl, rfl, D10, F10⟩
    case round =>
     obtain ⟨k, hk, rfl, rfl, rfl, JD, JF⟩ := hrel; by_cases hlt : k < nf
     ·obtain ⟨oF, kR⟩ := HFL.out k hlt
      obtain ⟨pk, mj⟩ := exE (zdM S3 k); have hnx : zdM S3 (k + 1) = gFld pk := by rw [<- mj]; rfl
      rw [mj] at oF kR JD; have q1 := decStr te pe _ _ _ _ _ JD.out oF; obtain ⟨nm, pQ⟩ := exE ((zce pk.2).1); obtain ⟨T1, gu⟩ := exE ((zce pk.2).2); rw [pQ, gu] at q1; rw [gu] at kR; have HU2 := zmh kR; obtain ⟨vl, hvl⟩ := exE ((zce T1).1); obtain ⟨T2, iQ⟩ := exE ((zce T1).2)
      have q2 : Hid (∀ W, Dec te pe W w.heap.size g cur T1 -> Calls prog 173 #[.pointer (some ⟨w.heap.size, 0, none⟩)] W (zb0 te pe W w.heap.size g cur (.string vl) T2)) := zmh (fun W hW => by have := decStr te pe _ _ _ _ _ hW HU2.out; rwa [hvl, iQ] at this)
      have ko : gFld pk = (if nm = zjn then (vl, pk.1.2) else if nm = zjo then (pk.1.1, vl) else pk.1, T2) := by unfold gFld; rw [pQ, gu, hvl, iQ]
      obtain ⟨⟨pu, ph⟩, kK⟩ := pk; have jm := zmh (hnx.trans ko); rw [mj]; clear mj hnx pQ gu hvl iQ ko oF kR; by_cases hb1 : nm = zjn
      ·have e1 : (nm.toList == [85, 78, 73, 84]) = true := (zf4 nm #[85, 78, 73, 84]).2 hb1
       have cE := zmh hb1; clear hb1
       go_wp2_with (first
        | (go_at_call 173; refine (q2.out _ rj.out).mono ?_; rintro r w12 ⟨rfl, fg, fc⟩; have ri := zmh fg; have rf := zmh (rg.out.same fc); clear fg fc)
        | (go_at_call 173; refine q1.mono ?_; rintro r je ⟨rfl, cQ, cu⟩; have rj := zmh cQ; have rg := zmh (JF.out.same cu); clear cQ cu))
       go_roundw
       case rel => exact ⟨k + 1, by omega, by go_num, by rw [jm.out, if_pos cE.out], by rw [jm.out, if_pos cE.out], zmh (by rw [jm.out]; exact ri.out), rf⟩
       case measure => simp [intOf]; omega
      ·have e1 : (nm.toList == [85, 78, 73, 84]) = false := zf3 nm #[85, 78, 73, 84] hb1
       have cE := zmh hb1; clear hb1; by_cases hb2 : nm = zjo
       ·have e2 : (nm.toList == [72, 69, 76, 80]) = true := (zf4 nm #[72, 69, 76, 80]).2 hb2
        have dg := zmh hb2; clear hb2
        go_wp2_with (first
         | (go_at_call 173; refine (q2.out _ rj.out).mono ?_; rintro r w12 ⟨rfl, fg, fc⟩; have ri := zmh fg; have rf := zmh (rg.out.same fc); clear fg fc)
         | (go_at_call 173; refine q1.mono ?_; rintro r je ⟨rfl, cQ, cu⟩; have rj := zmh cQ; have rg := zmh (JF.out.same cu); clear cQ cu))
        go_roundw
        case rel => exact ⟨k + 1, by omega, by go_num, by rw [jm.out, znd cE.out, if_pos dg.out], by rw [jm.out, znd cE.out, if_pos dg.out], zmh (by rw [jm.out]; exact ri.out), rf⟩
        case measure => simp [intOf]; omega
       ·have e2 : (nm.toList == [72, 69, 76, 80]) = false := zf3 nm #[72, 69, 76, 80] hb2
        have dg := zmh hb2; clear hb2
        go_wp2_with (first
         | (go_at_call 173; refine (q2.out _ rj.out).mono ?_; rintro r w12 ⟨rfl, fg, fc⟩; have ri := zmh fg; have rf := zmh (rg.out.same fc); clear fg fc)
         | (go_at_call 173; refine q1.mono ?_; rintro r je ⟨rfl, cQ, cu⟩; have rj := zmh cQ; have rg := zmh (JF.out.same cu); clear cQ cu))
        go_roundw
        case rel => exact ⟨k + 1, by omega, by go_num, by rw [jm.out, znd cE.out, znd dg.out], by rw [jm.out, znd cE.out, znd dg.out], zmh (by rw [jm.out]; exact ri.out), rf⟩
        case measure => simp [intOf]; omega
     ·obtain rfl : k = nf := by omega
      obtain ⟨pk, mj⟩ := exE (zdM S3 k); rw [mj] at JD ⊢; obtain ⟨⟨pu, ph⟩, kK⟩ := pk; have HPK := zmh mj; clear mj; simp only []; obtain ⟨OA, FA⟩ := KW.out _ JF.out; have sA := FA.size; have dP := zmh FA; have cN := zmh OA; obtain ⟨q0, q1, q2, q3, q4, q5, q6, q7⟩ := o9.out; have bg : zbe S0 = (⟨v0, UInt8.ofNat v1, pu, ph⟩, kK) := by
       unfold zbe; rw [q0, q1, q2, q6, q7, HPK.out]
      have jg : (UInt8.ofNat v1).toNat = v1 := by simp; omega
      obtain ⟨ty, pD⟩ := exE (UInt8.ofNat v1); rw [pD] at bg jg; subst jg
      have dk : Hid (∀ j', j = j' + 1 -> zaj zbe j' kK (acc ++ [⟨v0, ty, pu, ph⟩]) = zaj zbe rest.length (some rest) []) := zmh (by
       rintro j' rfl; have h := HE.out; have h2 : zaj zbe (j' + 1) (some (x :: r)) acc = zaj zbe j' (zbe (some (x :: r))).2 (acc ++ [(zbe (some (x :: r))).1]) := rfl; rw [h2, ic.out, bg] at h
       exact h)
      have bi : Hid (∀ l, kK = some l -> l.length < n7) := zmh (fun l hl => by
       have h := zjY (l0 := x :: r) (l := l) (by rw [ic.out, bg]; exact hl)
       rw [eV.out] at h; exact h)
      have oq : Hid (ak kK) := zmh (by have h := ot.out; rw [bg] at h; exact h); have gV : Hid (Dec te pe wr w.heap.size g cur kK) := JD; clear OA FA q0 q1 q2 q3 q4 q5 q6 q7 bg pD hE
      go_wp2_with (first
       | (at_builtin; refine Hid.out ?_))
      refine zmh ?_
      refine zaf _ rfl _ _ 169 169 rfl base 174 i0 _ 4 48 underlying169 aC az ay aB rfl (by decide) (.slice a6 (np + acc.length) k6) (np + acc.length) ((pre ++ acc).flatMap Mta.c) rfl (cN.out.alloc _) _ 1 (Mta.c ⟨v0, ty, pu, ph⟩) rfl (zaF underlying169 (znm wr 174 (Mta.c ⟨v0, ty, pu, ph⟩).toArray) rfl (by simp [Mta.c, Value.oneCell'])) (by unfold maxLen; omega) (by omega) (by simp; omega) ?_
      intro v' w2 ac ad av
      obtain ⟨a9, k9, rfl⟩ := zaa ac
      have aO : ∀ k, (Value.slice a6 (np + acc.length) k6).ownBlock = some k -> base <= k /\ k ≠ w.heap.size := fun k hk => ⟨(cN.out.lt k hk).1, by
       rcases HB.out k hk with h | h
       ·have := ir.out k h.symm; omega
       ·omega⟩
      have iB := ad.size; simp at iB; have fG : Fr (fun k => some k = (Value.slice a6 (np + acc.length) k6).ownBlock) wr w2 := ((znl (fun k => some k = (Value.slice a6 (np + acc.length) k6).ownBlock) wr).alloc _).grown ad (fun k hk => .inl hk.symm)
      have rD : Dec te pe w2 w.heap.size g cur kK := gV.out.fr fG (fun e => (aO _ e.symm).2 rfl) (fun e => by have := (aO _ e.symm).1; omega) (fun e => by have := (aO _ e.symm).1; omega); have rO : w2.ownsRow base 174 4 (.slice a9 (np + acc.length + 1) k9) (np + (acc ++ [(⟨v0, ty, pu, ph⟩ : Mta)]).length) ((pre ++ (acc ++ [(⟨v0, ty, pu, ph⟩ : Mta)])).flatMap Mta.c) := by
       rw [<- zmk, zmQ, zmi, zmy]; simpa [Nat.add_assoc] using ac
      have rF : Fr (fun k => some k = (Value.slice a' np k').ownBlock) w w2 := dP.out.trans fG (fun k hk e => by
       rcases HB.out k e.symm with h | h
       ·exact h
       ·omega)
      have rB : ∀ k, (Value.slice a9 (np + acc.length + 1) k9).ownBlock = some k -> (some k = (Value.slice a' np k').ownBlock ∨ w.heap.size < k) := fun k hk => by
       rcases av with h | h
       ·exact HB.out k (h ▸ hk)
       ·rw [h] at hk; injection hk with hk; simp at hk; exact .inr (by omega)
      have rM : zij w.heap.size w2 < n7 + 1 := by
       rcases kK with _ | l9
       ·rw [zc7 rD]; omega
       ·rw [zbo rD]; have := bi.out l9 rfl; omega
      have RD := zmh rD; have RO := zmh rO; have RF := zmh rF; have RB := zmh rB; clear rD rO rF rB ac ad av aO fG; go_wp2; go_roundw
      case rel =>
       obtain ⟨j', rfl⟩ : ∃ j', j = j' + 1 := ⟨j - 1, by have := eV.out; simp at this; omega⟩; refine ⟨kK, acc ++ [⟨v0, ty, pu, ph⟩], j', RD, RO, RF, RB, zmh (dk.out j' rfl), zmh (fun l hl => ?_), by simp; omega, oq⟩; have := bi.out l hl; rw [zmi, zmy]; omega
      case measure => rw [hM]; exact rM
theorem zje (ak : St -> Prop) (hG : ∀ l, ak (some l) -> zeK (some l) /\ ak (zbe (some l)).2) (te : TypeId) (pe : Value) (dv : Value) (g base : Nat) (cur : Array Value) (pre : List Mta) (xs : List UInt8) (v sv : Value) (w : World) (h : Rec te pe w g cur xs v) (ho : w.ownsRow base 174 4 sv pre.length (pre.flatMap Mta.c)) (hb : g < base /\ 2 < base /\ base <= w.heap.size) (bx : pre.length <= 1073741824) (aZ : ∀ r, xs = 6 :: r -> ak (some r)) :
 Calls prog 81 #[dv, v, sv] w (zb9 w base sv.ownBlock pre xs) := by
 by_cases hx : (zaD (some xs)).1 = 6
 ·rcases xs with _ | ⟨b, rest⟩
  ·exact absurd hx (by decide)
  ·have hb2 : b = 6 := by
    have : b.toNat = (6 : UInt8).toNat := hx; exact UInt8.toNat_inj.1 this
   subst hb2; exact zii ak hG te pe dv g base cur pre rest v sv w h ho hb bx (aZ _ rfl)
 ·exact zih te pe dv g base cur pre xs v sv w h hx
end Go.Proofs.YtbkookiigkckdaaGreatDoor
