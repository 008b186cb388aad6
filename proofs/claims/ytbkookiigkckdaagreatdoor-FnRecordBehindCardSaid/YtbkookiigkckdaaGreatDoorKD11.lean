/- Merged. -/
import Derived.Test.YtbkookiigkckdaaGreatDoorKD08
set_option linter.unusedVariables false
set_option linter.unusedSimpArgs false
set_option maxRecDepth 100000
set_option maxHeartbeats 8000000
namespace Go.Proofs.YtbkookiigkckdaaGreatDoor
open Go.RowKit Go.Proofs.Tryz
theorem cv_fr {S : Nat -> Prop} {w w' : World} (h : Fr S w w') (s : ByteArray) : Fr S w (Lib.bytesWorld w' 5 s) := by
 refine h.trans (S' := fun _ => False) ⟨?_, ?_, ?_, by rw [Lib.bytesWorld_size]; omega, fun k hk _ => Lib.bytesWorld_at_old w' 5 s k hk⟩ (fun _ _ e => e.elim); all_goals rfl
theorem cv_go (w : World) (s : ByteArray) : (convert 9 44 (.string s)).run prog w = .ok (.slice (some ⟨w.heap.size, 0, none⟩) s.size (grownCap w s.size 0 5)) (Lib.bytesWorld w 5 s) :=
 Lib.run_convert_string_bytes w 9 44 5 s underlying9 underlying44 underlying5
theorem cv_back (w : World) (s : ByteArray) (c : Nat) : (convert 44 9 (.slice (some ⟨w.heap.size, 0, none⟩) s.size c)).run prog (Lib.bytesWorld w 5 s) = .ok (.string s) (Lib.bytesWorld w 5 s) := by
 have h := run_convert_bytes_back (P := prog) (Lib.bytesWorld w 5 s) 44 9 5 ⟨w.heap.size, 0, none⟩ c s.data.toList underlying44 underlying5 underlying9 (fun j hj => by
  have e1 : (⟨w.heap.size, 0, none⟩ : Addr).add j = ⟨w.heap.size, 0 + j, none⟩ := by unfold Addr.add; split <;> simp_all
  have qb : j < s.size := by rw [znb]; exact hj
  rw [e1, zmM, Lib.bytesWorld_cell w 5 s j qb]
  simp [List.getD, zmj hj])
 rw [<- znb] at h; rw [h]
def UJ (w0 : World) (c : Nat) (l : List Lab) (k : Nat) (W : World) : Prop :=
 ∃ v, Blk W c 31 #[v] /\ W.ownsRow w0.heap.size 40 2 v k ((l.take k).flatMap zaK) /\ z_F w0 W
theorem zjD (w0 : World) (c b : Nat) (hc : w0.heap.size <= c) (cs : Array Value) (l : List Lab) (k : Nat) (x : Lab) (hx : l[k]? = some x) (hl : l.length <= 1099511627776) (W : World) (h : UJ w0 c l k W) (hb : Blk W b 99 cs) :
 Calls prog 163 #[.agg #[.string x.1, .string x.2], .pointer (some ⟨c, 0, none⟩)] W fun r w' => r = .returned (.tuple #[]) /\ UJ w0 c l (k + 1) w' /\ Blk w' b 99 cs := by
 obtain ⟨v, lm, ab, hf⟩ := h; obtain ⟨i0, aC, az, ay, aB⟩ := info_parts info40; have hk : k < l.length := (List.getElem?_eq_some_iff.mp hx).1; obtain ⟨n, y⟩ := x; obtain ⟨W1, io⟩ := exE (W.alloc (.cells #[.string n, .string y] 108)); have ax : Blk W1 W.heap.size 108 #[.string n, .string y] := by rw [<- io]; exact znm W 108 _
 have F1 : z_F W W1 := by rw [<- io]; exact (znl _ W).alloc _
 obtain ⟨W2, jO⟩ := exE (Lib.bytesWorld W1 5 n); have F2 : z_F W1 W2 := by rw [<- jO]; exact cv_fr (znl _ W1) n
 obtain ⟨W3, eQ⟩ := exE (Lib.bytesWorld W2 5 y); have F3 : z_F W2 W3 := by rw [<- eQ]; exact cv_fr (znl _ W2) y
 have a1 := cv_go W1 n; have a2 := cv_back W1 n (grownCap W1 n.size 0 5); have a3 := cv_go W2 y; have a4 := cv_back W2 y (grownCap W2 y.size 0 5); rw [jO] at a1 a2; rw [eQ] at a3 a4; have c1 : W1.cell? ⟨c, 0, none⟩ = some v := (lm.fr F1 id).cell 0; have c2 : W1.cell? ⟨W.heap.size, 0, none⟩ = some (.string n) := ax.cell 0
 have c3 : W2.cell? ⟨W.heap.size, 1, none⟩ = some (.string y) := (ax.fr F2 id).cell 1; obtain ⟨a', n', k', rfl⟩ := zab ab; have FF : z_F W W3 := (F1.same F2).same F3; have HO := zmh (zai ab FF z_i); have HC := zmh (lm.fr FF id); have HBb := zmh (hb.fr FF id); have HF := zmh (hf.same FF); have HX := zmh hx
 have hsz0 : w0.heap.size <= W3.heap.size := (hf.same FF).size; clear ab lm hb hf FF F1 F2 F3 ax; go_enter func163, ntmps163; go_wp2_with (at_builtin; refine Hid.out ?_)
 refine zmh ?_; refine zaf _ rfl _ _ 31 31 rfl w0.heap.size 40 i0 _ 2 32 underlying31 aC az ay aB rfl (by decide) _ k ((l.take k).flatMap zaK) rfl (HO.out.alloc _) _ 1 (zaK (n, y)) rfl (zaF underlying31 (znm W3 40 (zaK (n, y)).toArray) rfl (by simp [zaK, Value.oneCell'])) (by unfold maxLen; omega) (by omega) (by simp; omega) ?_; intro v' w2 ac ad av
 have hg : (W3.alloc (.cells (zaK (n, y)).toArray 40)).grownBy w2 (Value.slice a' n' k').ownBlock := ad; have n1 := zak HO.out HC.out (by decide); have n2 := zak HO.out HBb.out (by decide); have iT : Blk w2 c 31 #[.slice a' n' k'] := (HC.out.alloc _).grown hg (fun e => n1 e.symm); have bn : Blk w2 b 99 cs := (HBb.out.alloc _).grown hg (fun e => n2 e.symm)
 have gc : z_F w0 w2 := (HF.out.alloc _).grown hg (fun k hk => .inr ((HO.out.lt k hk).1)); have af : w2.ownsRow w0.heap.size 40 2 v' (k + 1) ((l.take (k + 1)).flatMap zaK) := by rw [zam zaK l k _ HX.out]; exact ac
 obtain ⟨a5, n5, k5, rfl⟩ := zab af; have c4 := iT.cell 0; have f4 := iT.frozen 0; have aN : b ≠ c := znn bn iT (by decide); have HH := zmh (zm8 iT (zm8 bn (zm8 gc (zm8 af aN)))); clear ad av hg ac n1 n2 iT bn gc af aN a1 a2 a3 a4 c1 c2 c3 io jO eQ; go_wp2; go_end0; obtain ⟨iT, bn, gc, af, aN⟩ := HH.out
 refine ⟨rfl, ⟨_, iT.set_ 0 _, ?_, gc.setCell (p := ⟨c, 0, none⟩) (.inr hc) _⟩, bn.far aN _⟩; exact zai (S := fun k => k = c) af (Fr.at_ w2 c 0 _) (fun g hg e => zak af iT (by decide) (by rw [hg]; exact zm7 some e))
theorem UJ.fr {w0 : World} {c : Nat} {l : List Lab} {k : Nat} {W W' : World} (h : UJ w0 c l k W) (hf : z_F W W') : UJ w0 c l k W' := by
 obtain ⟨v, h1, h2, h3⟩ := h; exact ⟨v, h1.fr hf id, zai h2 hf z_i, h3.same hf⟩
theorem zk9 (l : List Lab) (w : World) (hl : l.length <= 1099511627776) (hs : ∀ p ∈ l, p.1.size < 16777216 /\ p.2.size < 16777216) (bD : zaC l <= 1099511627776) :
 Calls prog 70 #[.agg #[.string (zau l)]] w (zem 40 w l) := by
 have eg : ∀ args w, (callFunc 163 args).run prog w = .ok (.enter 163 args) w := enters_of func163 (by kernel_rfl) rfl; obtain ⟨W, hW⟩ := exE ((w.alloc (.cells #[.string (zau l)] 99)).alloc (.cells #[.slice none 0 0] 31)); have hb1 : Blk W (w.heap.size + 1) 31 #[.slice none 0 0] := by rw [<- hW]; exact zaH w _ 31 _
 have hF : z_F w W := by rw [<- hW]; exact ((znl _ w).alloc _).alloc _
 have hJ0 : UJ w (w.heap.size + 1) l 0 W := ⟨_, hb1, zmv _ _ _ _, hF⟩; have hR := ziJ l 163 #[.pointer (some ⟨w.heap.size + 1, 0, none⟩)] eg (UJ w (w.heap.size + 1) l) W hs bD (fun _ _ _ h hf => h.fr hf) hJ0
  (fun k x W' hx hj hb => zjD w (w.heap.size + 1) W.heap.size (by omega) _ l k x hx hl W' hj hb)
 have c0 : W.cell? ⟨w.heap.size, 0, none⟩ = some (.string (zau l)) := by rw [<- hW]; exact ((znm w 99 #[.string (zau l)]).alloc _).cell 0
 generalize zau l = s at hR hW c0 ⊢; clear hJ0 hF hb1 hs bD; have hmf : ∀ (fn : Fn) (first aK : Array Value) (w : World), (Instr.makeFunc fn first aK).run prog w = .ok (.func fn first aK) w := fun _ _ _ _ => rfl; go_enter func70, ntmps70; go_wp2_with (go_at_call 152; refine hR.mono ?_; rintro r w1 ⟨rfl, v, h1, h2, h3⟩; have c1 := h1.cell 0)
 go_ret; rw [zmI] at h2; exact ⟨v, rfl, h2, h3⟩
theorem zeu (P Q : Nat -> Prop) (u v : Value) (l : List Lab) (w : World) (hu : Sl P w u 2 l.length (l.flatMap zaK)) (hv : Sl Q w v 2 l.length (l.flatMap zaK)) (hl : l.length <= 1099511627776) : Calls prog 25 #[u, v] w (zap w) := by
 obtain ⟨A, c, rfl, _, hc, hr⟩ := hu; obtain ⟨B, d, rfl, _, hd, hs⟩ := hv; obtain ⟨n, hn⟩ := exE l.length; rw [hn] at hr hs hc hd hl ⊢; have HN := zmh hn; have HR := zmh hr; have HS := zmh hs; clear hn hr hs; go_enter func25, ntmps25; go_wp2; go_loopw [5] (fun i wr => ∃ k : Nat, k <= n /\ i = .int .i64 k /\ z_F w wr) (fun i _ => n - (intOf i).toNat)
 case atStart => exact ⟨0, zms _, rfl, znl _ _⟩
 case round =>
  obtain ⟨k, hk, rfl, hf⟩ := hrel; by_cases hlt : k < n
  ·obtain ⟨g, off, rfl, _, aa⟩ := HR.out (by omega)
   obtain ⟨g2, an, rfl, _, aj⟩ := HS.out (by omega); obtain ⟨x, hx⟩ : ∃ x, l[k]? = some x := ⟨_, zmj (by rw [HN.out]; exact hlt)⟩; have aw : ∀ {g off : Nat}, (∀ j u, (l.flatMap zaK)[j]? = some u -> w.cell? ⟨g, off + j, none⟩ = some u) -> ∀ j, j < 2 -> ∀ u, (zaK x)[j]? = some u -> wr.drew.cell? ⟨g, off + (k * 2 + j), none⟩ = some u := fun {g off} aa j hj u hu => by
    have := aa (k * 2 + j) u (by rw [zby zaK (fun _ => rfl) l k x hx j hj]; exact hu); rw [hf.drew.cell (p := ⟨g, off + (k * 2 + j), none⟩) (zmo w _ this) id]; exact this
   have c0 : wr.drew.cell? ⟨g, off + k * 2, none⟩ = some (.string x.1) := aw aa 0 (by omega) _ rfl; have c1 : wr.drew.cell? ⟨g, off + k * 2 + 1, none⟩ = some (.string x.2) := aw aa 1 (by omega) _ rfl; have d0 : wr.drew.cell? ⟨g2, an + k * 2, none⟩ = some (.string x.1) := aw aj 0 (by omega) _ rfl
   have d1 : wr.drew.cell? ⟨g2, an + k * 2 + 1, none⟩ = some (.string x.2) := aw aj 1 (by omega) _ rfl; have aq := zmh hf.drew; clear aa aj aw hf hx; go_wp2; go_region; go_wp2; go_roundw
   case rel => exact ⟨k + 1, by omega, by go_num, aq.out⟩
   case measure => simp [intOf]; omega
  ·obtain rfl : k = n := by omega
   go_wp2; go_ret; exact ⟨rfl, hf⟩
def LabOk (l : List Lab) (cH bytes : Nat) : Prop := l.length <= cH /\ (∀ p ∈ l, p.1.size ≠ 0 /\ p.1.size <= bytes /\ p.2.size <= bytes) /\ l.Pairwise (fun a b => a.1 ≠ b.1)
def RightEnds (l : List Lab) (cH bytes : Nat) (w : World) (r : Ending) (w' : World) : Prop := ∃ b : Bool, r = .returned (.bool b) /\ (b = true ↔ LabOk l cH bytes) /\ z_F w w'
def LabPre (l : List Lab) (bytes k : Nat) : Prop :=
 (∀ (i : Nat) (x : Lab), i < k -> l[i]? = some x -> x.1.size ≠ 0 /\ x.1.size <= bytes /\ x.2.size <= bytes) /\ ∀ (i j : Nat) (x y : Lab), j < i -> i < k -> l[i]? = some x -> l[j]? = some y -> y.1 ≠ x.1
theorem LabPre.ok {l : List Lab} {cH bytes : Nat} (h : LabPre l bytes l.length) (hl : l.length <= cH) : LabOk l cH bytes := by
 refine ⟨hl, fun p hp => ?_, ?_⟩
 ·obtain ⟨i, hi⟩ := List.mem_iff_getElem?.mp hp
  exact h.1 i p (List.getElem?_eq_some_iff.mp hi).1 hi
 ·rw [List.pairwise_iff_getElem]
  intro i j hi hj hij; exact h.2 j i _ _ hij hj (zmj hj) (zmj hi)
theorem LabOk.at {l : List Lab} {cH bytes : Nat} (h : LabOk l cH bytes) (k : Nat) (x : Lab) (hx : l[k]? = some x) : x.1.size ≠ 0 /\ x.1.size <= bytes /\ x.2.size <= bytes := h.2.1 x (zmp hx)
theorem LabOk.ne {l : List Lab} {cH bytes : Nat} (h : LabOk l cH bytes) (k j : Nat) (x y : Lab) (hx : l[k]? = some x) (hy : l[j]? = some y) (hj : j < k) : y.1 ≠ x.1 := by
 obtain ⟨hk, rfl⟩ := List.getElem?_eq_some_iff.mp hx; obtain ⟨hj', rfl⟩ := List.getElem?_eq_some_iff.mp hy; exact List.pairwise_iff_getElem.mp h.2.2 j k hj' hk hj
theorem zi9 (s : ByteArray) : s.toList.isEmpty = decide (s.size = 0) := by
 rw [Lib.toList_data, znb]; cases s.data.toList <;> simp
theorem zgv (P : Nat -> Prop) (v : Value) (l : List Lab) (cH bytes : Nat) (w : World) (h : Sl P w v 2 l.length (l.flatMap zaK)) (hl : l.length <= 1099511627776) (hm : cH <= 1099511627776) (hb : bytes <= 1099511627776) :
 Calls prog 53 #[v, .int .i64 cH, .int .i64 bytes] w (RightEnds l cH bytes w) := by
 obtain ⟨A, c, rfl, _, hc, hr⟩ := h; obtain ⟨n, hn⟩ := exE l.length; rw [hn] at hr hc hl ⊢; have HN := zmh hn; have HR := zmh hr; clear hn hr; by_cases hmn : cH < n
 ·have hmn' : (cH : Int) < n := by omega
  go_enter func53, ntmps53; go_wp2; go_ret; exact ⟨false, rfl, ⟨fun h => (by cases h), fun h => absurd h.1 (by rw [HN.out]; omega)⟩, znl _ _⟩
 ·have hmn' : ¬ (cH : Int) < n := by omega
  go_enter func53, ntmps53; go_wp2; go_loopw [7] (fun i wr => ∃ k : Nat, k <= n /\ i = .int .i64 k /\ Hid (LabPre l bytes k) /\ Hid (z_F w wr)) (fun i _ => n - (intOf i).toNat)
  case atStart => exact ⟨0, zms _, rfl, zmh ⟨fun i x h => absurd h (zm2 _), fun i j x y _ h => absurd h (zm2 _)⟩, zmh (znl _ _)⟩
  case round =>
   obtain ⟨k, hk, rfl, HP, HF⟩ := hrel; by_cases hlt : k < n
   ·obtain ⟨g, off, rfl, _, aa⟩ := HR.out (by omega)
    obtain ⟨x, hx⟩ : ∃ x, l[k]? = some x := ⟨_, zmj (by rw [HN.out]; exact hlt)⟩; have aw : ∀ (i : Nat) (z : Lab), l[i]? = some z -> ∀ W, z_F w W -> W.cell? ⟨g, off + i * 2, none⟩ = some (.string z.1) /\ W.cell? ⟨g, off + i * 2 + 1, none⟩ = some (.string z.2) := fun i z hz W hF => by
     have cc : ∀ j, j < 2 -> ∀ u, (zaK z)[j]? = some u -> W.cell? ⟨g, off + (i * 2 + j), none⟩ = some u := fun j hj u hu => by
      have := aa (i * 2 + j) u (by rw [zby zaK (fun _ => rfl) l i z hz j hj]; exact hu); rw [hF.cell (p := ⟨g, off + (i * 2 + j), none⟩) (zmo w _ this) id]; exact this
     exact ⟨cc 0 (by omega) _ rfl, cc 1 (by omega) _ rfl⟩
    obtain ⟨c0, c1⟩ := aw k x hx wr HF.out; have HK := zmh aw; have HX := zmh hx; clear aw aa hx; by_cases e0 : x.1.size = 0
    ·have e0' : x.1.toList.isEmpty = true := by rw [zi9]; exact decide_eq_true e0
     go_wp2; go_ret; exact ⟨false, rfl, ⟨fun h => (by cases h), fun h => absurd e0 (h.at k x HX.out).1⟩, HF.out⟩
    ·have e0' : x.1.toList.isEmpty = false := by rw [zi9]; exact decide_eq_false e0
     by_cases h1 : bytes < x.1.size
     ·have qV : (bytes : Int) < x.1.size := by omega
      go_wp2; go_ret; exact ⟨false, rfl, ⟨fun h => (by cases h), fun h => absurd h1 (by have := (h.at k x HX.out).2.1; omega)⟩, HF.out⟩
     ·have qV : ¬ (bytes : Int) < x.1.size := by omega
      by_cases h2 : bytes < x.2.size
      ·have qU : (bytes : Int) < x.2.size := by omega
       go_wp2; go_ret; exact ⟨false, rfl, ⟨fun h => (by cases h), fun h => absurd h2 (by have := (h.at k x HX.out).2.2; omega)⟩, HF.out⟩
      ·have qU : ¬ (bytes : Int) < x.2.size := by omega
       go_wp2; clear c0 c1; go_loopw [8] (fun i w' => ∃ j : Nat, j <= k /\ i = .int .i64 j /\ Hid (∀ (i : Nat) (y : Lab), i < j -> l[i]? = some y -> y.1 ≠ x.1) /\ Hid (z_F w w')) (fun i _ => k - (intOf i).toNat)
       case atStart => exact ⟨0, zms _, rfl, zmh (fun i y h => absurd h (zm2 _)), HF⟩
       case round =>
        obtain ⟨j, hj, rfl, HJ, bu⟩ := hrel; by_cases hlt2 : j < k
        ·obtain ⟨y, hy⟩ : ∃ y, l[j]? = some y := ⟨_, zmj (by rw [HN.out]; omega)⟩
         obtain ⟨c0, _⟩ := HK.out k x HX.out wr bu.out; obtain ⟨b0, _⟩ := HK.out j y hy wr bu.out; obtain ⟨d0, _⟩ := HK.out k x HX.out wr.drew bu.out.drew; obtain ⟨d1, _⟩ := HK.out j y hy wr.drew bu.out.drew; have HY := zmh hy; have bB := zmh bu.out.drew; clear hy; by_cases he : y.1 = x.1
         ·have HE := zmh he
          go_wp2; go_region; all_goals go_wp2
          go_ret; exact ⟨false, rfl, ⟨fun h => (by cases h), fun h => absurd HE.out (h.ne k j x y HX.out HY.out hlt2)⟩, bB.out⟩
         ·have he1 : (y.1.toList == x.1.toList) = false := by rw [beq_eq_false_iff_ne, Lib.toList_data, Lib.toList_data]; exact fun e => he (ByteArray.ext (Array.toList_inj.1 e))
          have HE := zmh he; go_wp2; go_region; all_goals go_wp2
          refine ⟨⟨j + 1, hlt2, rfl, zmh ?_, bB⟩, ?_⟩
          ·intro i z hi hz
           by_cases e : i = j
           ·subst e
            have := HY.out; rw [hz] at this; injection this with this; rw [this]; exact HE.out
           ·exact HJ.out i z (by omega) hz
          ·show k - ((j : Int) + 1).toNat < k - (j : Int).toNat; omega
        ·obtain rfl : j = k := by omega
         go_wp2; go_roundw
         case rel =>
          refine ⟨j + 1, by omega, by go_num, zmh ?_, bu⟩; have hp := HP.out; refine ⟨fun i z hi hz => ?_, fun i j' z y hji hi hz hy => ?_⟩
          ·by_cases e : i = j
           ·subst e
            have := HX.out; rw [hz] at this; injection this with this; rw [this]; exact ⟨e0, by omega, by omega⟩
           ·exact hp.1 i z (by omega) hz
          ·by_cases e : i = j
           ·subst e
            have := HX.out; rw [hz] at this; injection this with this; rw [this]; exact HJ.out j' y hji hy
           ·exact hp.2 i j' z y hji (by omega) hz hy
         case measure => simp [intOf]; omega
   ·obtain rfl : k = n := by omega
    go_wp2; go_ret; refine ⟨true, rfl, ⟨fun _ => ?_, fun _ => rfl⟩, HF.out⟩; have hp := HP.out; rw [<- HN.out] at hp; exact hp.ok (by rw [HN.out]; omega)
theorem zd7 {P : Program} {ops : Array Oper} {Q : Exit -> Act -> World -> Prop} {md : Region.Mode} {S : World -> Prop} {c : Nat} (i j : Nat) {fuel : Nat} {listed : Array Bool} {a : Act} {w : World} {oi oj : Oper}
 (hr : Region.ready md ops listed = [i, j]) (hoi : ops[i]? = some oi) (jC : ops[j]? = some oj) (hwi : Region.wanted oi (yielded ops a.tmps) = true) (hwj : Region.wanted oj (yielded ops a.tmps) = true)
 (hi : ∀ K' : Act -> World -> Prop, Shut (∀ a w, S w -> zcZ P md ops Q S c fuel (listed.setIfInBounds i true) a w -> K' a w) -> Oper.wp P oi a w K' Q)
 (hj : ∀ K' : Act -> World -> Prop, Shut (∀ a w, S w -> zcZ P md ops Q S c fuel (listed.setIfInBounds j true) a w -> K' a w) -> Oper.wp P oj a w K' Q) : zcZ P md ops Q S c (fuel + 1) listed a w := by
 refine ⟨fun h0 => (by rw [hr] at h0; cases h0), fun k hk => ?_⟩; rw [hr] at hk; rcases List.mem_cons.mp hk with e | hk
 ·subst e
  unfold wpOp; simp only [hoi, hwi, if_true]; exact .inl (hi _ (fun a w hS hW => ⟨fun _ => hS, hW⟩))
 ·rw [zmY] at hk
  subst hk; unfold wpOp; simp only [jC, hwj, if_true]; exact .inl (hj _ (fun a w hS hW => ⟨fun _ => hS, hW⟩))
theorem less_lt : ∀ x y : List UInt8, Op.bytesLess x y = decide (x < y)
 | x, [] => by cases x <;> simp [Op.bytesLess]
 | [], _ :: _ => by simp [Op.bytesLess]
 | a :: x, b :: y => by
   rw [Op.bytesLess, less_lt x y]; simp only [List.cons_lt_cons_iff, Bool.decide_or, Bool.decide_and]; congr 1
theorem zkQ (x y : Lab) : Op.bytesLess x.1.toList y.1.toList = ltL x y := by
 rw [less_lt, Lib.toList_data, Lib.toList_data]; rfl
theorem zfV (l : List Lab) : ∀ u ∈ l.flatMap zaK, u.oneCell' = true := by
 intro u hu; obtain ⟨x, _, hx⟩ := List.mem_flatMap.mp hu; simp [zaK] at hx; rcases hx with rfl | rfl <;> rfl
theorem zie : prog.elem 31 = 40 := by kernel_rfl
theorem size40 (w : World) : (sizeOf 40).run prog w = .ok 2 w := by kernel_rfl
theorem zho (o : List Lab) (j : Nat) (hj : j <= o.length) : (o.flatMap zaK).take (j * 2) = (o.take j).flatMap zaK /\ (o.flatMap zaK).drop (j * 2) = (o.drop j).flatMap zaK := by
 have e : o.flatMap zaK = (o.take j).flatMap zaK ++ (o.drop j).flatMap zaK := by rw [<- zmQ, List.take_append_drop]
 have h : ((o.take j).flatMap zaK).length = j * 2 := by rw [zeg, zm3, Nat.min_eq_left hj]
 rw [e]; exact ⟨List.take_left' h, List.drop_left' h⟩
theorem sl_take {P : Nat -> Prop} {W : World} {A : Option Addr} {c : Nat} {o : List Lab} {k j : Nat} (h : Sl P W (.slice A k c) 2 k (o.flatMap zaK)) (ho : o.length = k) (hj : j <= k) : Sl P W (.slice A j c) 2 j ((o.take j).flatMap zaK) := by
 obtain ⟨A', c', e, hl, hc, hr⟩ := h; injection e with e1 _ e3; subst e1 e3; refine ⟨A, c, rfl, by rw [zeg, zm3]; omega, by omega, fun h0 => ?_⟩; obtain ⟨g, off, hA, hP, aa⟩ := hr (by omega); refine ⟨g, off, hA, hP, fun i u hu => aa i u ?_⟩; rw [<- (zho o j (by omega)).1, List.getElem?_take] at hu; split at hu
 ·exact hu
 ·cases hu
theorem sl_drop {P : Nat -> Prop} {W0 : World} {A : Option Addr} {c : Nat} {o : List Lab} {k j : Nat} (h : Sl P W0 (.slice A k c) 2 k (o.flatMap zaK)) (ho : o.length = k) (hj : j <= k) :
 ∃ A', (∀ W, (Instr.slice 31 (.slice A k c) (some (.int .i64 j)) none none).run prog W = .ok (.slice A' (k - j) (c - j)) W) /\ ∀ W, Sl P W (.slice A k c) 2 k (o.flatMap zaK) -> Sl P W (.slice A' (k - j) (c - j)) 2 (k - j) ((o.drop j).flatMap zaK) := by
 have gG : ∀ W, (Instr.slice 31 (.slice A k c) (some (.int .i64 j)) none none).run prog W = .ok (sliced A j k c 2) W := fun W => by
  have h := run_slice_l (P := prog) W 31 A k c (by rw [zie]; exact underlying31) .i64 j (by omega) (by omega); rw [zie, size40] at h; rw [h]; simp [Result.andThen]
 refine ⟨if c = j then A else A.map (fun a : Addr => a.add (j * 2)), fun W => gG W, fun W h2 => ?_⟩; obtain ⟨A', c', e, hl, hc, hr⟩ := h2; injection e with e1 _ e3; subst e1 e3; refine ⟨_, _, rfl, by rw [zeg, List.length_drop]; omega, by omega, fun h0 => ?_⟩; obtain ⟨g, off, rfl, hP, aa⟩ := hr (by omega); have hcj : ¬ c = j := by omega
 have e1 : (⟨g, off, none⟩ : Addr).add (j * 2) = ⟨g, off + j * 2, none⟩ := by unfold Addr.add; split <;> simp_all
 refine ⟨g, off + j * 2, by simp [hcj, e1], hP, fun i u hu => ?_⟩; rw [<- (zho o j (by omega)).2, List.getElem?_drop] at hu; rw [Nat.add_assoc]; exact aa _ _ hu
theorem zdH (W : World) (base : Nat) (h : base <= W.heap.size) : (W.alloc (.cells #[] 40)).ownsRow base 40 2 (.slice (some ⟨W.heap.size, 0, none⟩) 0 0) 0 [] :=
 znk (base := base) (e := 40) (size := 2) W #[] 0 h (zms _) rfl
theorem zeo (P : Nat -> Prop) (v : Value) (l : List Lab) (w : World) (h : Sl P w v 2 l.length (l.flatMap zaK)) (hl : l.length <= 1099511627776) : Calls prog 24 #[v] w (zem 40 w (zaI l)) := by
 unfold zem; rw [zaZ]; obtain ⟨A, c, rfl, _, hc, hr⟩ := h; obtain ⟨n, hn⟩ := exE l.length; rw [hn] at hr hc hl ⊢; have HN := zmh hn; have HR := zmh hr; obtain ⟨i0, aC, az, ay, aB⟩ := info_parts info40; clear hn hr; go_enter func24, ntmps24; go_wp2
 go_loopw [3, 4] (fun vo vi wr => ∃ k : Nat, k <= n /\ vi = .int .i64 k /\ Hid (wr.ownsRow w.heap.size 40 2 vo k ((zaI (l.take k)).flatMap zaK)) /\ Hid (z_F w wr)) (fun _ vi _ => n - (intOf vi).toNat)
 case atStart => exact ⟨0, zms _, rfl, zmh (zmv _ _ _ _), zmh (znl _ _)⟩
 case round =>
  obtain ⟨k, hk, rfl, HO, HF⟩ := hrel; by_cases hlt : k < n
  ·obtain ⟨g, off, rfl, _, aa⟩ := HR.out (by omega)
   obtain ⟨x, hx⟩ : ∃ x, l[k]? = some x := ⟨_, zmj (by rw [HN.out]; exact hlt)⟩; have cx : ∀ W, z_F w W -> W.cell? ⟨g, off + k * 2, none⟩ = some (.string x.1) /\ W.cell? ⟨g, off + k * 2 + 1, none⟩ = some (.string x.2) := fun W hF => by
    have cc : ∀ j, j < 2 -> ∀ u, (zaK x)[j]? = some u -> W.cell? ⟨g, off + (k * 2 + j), none⟩ = some u := fun j hj u hu => by
     have := aa (k * 2 + j) u (by rw [zby zaK (fun _ => rfl) l k x hx j hj]; exact hu); rw [hF.cell (p := ⟨g, off + (k * 2 + j), none⟩) (zmo w _ this) id]; exact this
    exact ⟨cc 0 (by omega) _ rfl, cc 1 (by omega) _ rfl⟩
   have ai : (zaI (l.take k)).length = k := by rw [zaZ, zm3]; have := HN.out; omega
   have ij := zln ltL l k x hx; obtain ⟨o, ho⟩ := exE (zaI (l.take k)); have mu : o.length = k := by rw [<- ho]; exact ai
   have jr : zaI (l.take (k + 1)) = zjs ltL o x := by rw [<- ho]; exact ij
   rw [ho] at HO; obtain ⟨A2, c2, rfl⟩ := zaa HO.out; have HX := zmh cx; have HL := zmh mu; have jk := zmh jr; have iY := zmh (zno HO.out); clear cx ai ij ho hx aa mu jr; go_wp2; go_loopw [5] (fun vj w' => ∃ j : Nat, j <= k /\ vj = .int .i64 j /\ Hid (zh0 ltL x o k = zh0 ltL x o j) /\ Hid (z_F wr w')) (fun vj _ => (intOf vj).toNat)
   case atStart => exact ⟨k, zmt _, rfl, zmh rfl, zmh (znl _ _)⟩
   case round =>
    obtain ⟨j, hj, rfl, HJ, bu⟩ := hrel; have ov : Hid (z_F w wr) := zmh (HF.out.same bu.out); rcases j with _ | j
    ·have HP : Hid (zh0 ltL x o o.length = 0) := zmh (by rw [HL.out, HJ.out]; rfl)
     go_wp2; go_region; all_goals go_wp2
     have jY : Hid (∀ W, z_F wr W -> Sl (fun g => (Value.slice A2 k c2).ownBlock = some g) W (.slice A2 k c2) 2 k (o.flatMap zaK)) := zmh (fun W hW => (iY.out.fr (bu.out.same hW) z_i)); have hjk : 0 <= k := by omega
     have nd := cutTo zie underlying31 size40 A2 k c2 (0) .i64 ((0 : Nat) : Int) rfl (by have h := iY.out; obtain ⟨_, _, e, _, h, _⟩ := h; injection e with e1 e2 e3; omega)
     have eG : Hid (∀ W, z_F wr W -> Src prog 2 31 (.slice A2 (0) c2) (0) ((o.take (0)).flatMap zaK) W) := zmh (fun W hW => zbp underlying31 (sl_take (jY.out W hW) HL.out hjk) (zfV _))
     have jX : Hid (∀ W, z_F wr W -> Src prog 2 31 (.slice A2 (k - (0)) (c2 - (0))) (k - (0)) ((o.drop (0)).flatMap zaK) W) := zmh (fun W hW => zbp underlying31 (by have h := jY.out W hW; simpa using h) (zfV _)); have jG : zjs ltL o x = o.take (0) ++ x :: o.drop (0) := by unfold zjs; rw [HP.out]
     have ol := zmh jG
     have ni := ov.out.size; clear jG jY; refine zaQ (fun w' => z_F wr w') 14 (by kernel_rfl) ((znl _ wr).drew.drew) ?_; intro hS; have F0 : z_F wr wr.drew.drew := (znl _ wr).drew.drew; generalize wr.drew.drew = W0 at F0 hS ⊢; refine wpT 1 (.slice A2 k c2) rfl (by intro w; go_simp) hS ?_
     try simp only [Act.put, zml, zmm, zmn]
     refine wpT 2 (.int .i64 ((0 : Nat) : Int)) rfl (by intro w; go_simp) hS ?_; try simp only [Act.put, zml, zmm, zmn]
     refine wpT 3 (.slice A2 (0) c2) rfl (by intro w; go_simp) hS ?_; try simp only [Act.put, zml, zmm, zmn]
     refine wpT 5 (.slice (some ⟨g, off, none⟩) n c) rfl (by intro w; go_simp) hS ?_; try simp only [Act.put, zml, zmm, zmn]
     refine wpT 6 (.int .i64 k) rfl (by intro w; go_simp) hS ?_; try simp only [Act.put, zml, zmm, zmn]
     refine wpT 7 (.pointer (some ⟨g, off + k * 2, none⟩)) rfl (by intro w; go_simp) hS ?_; try simp only [Act.put, zml, zmm, zmn]
     refine wpL 8 [9, 10, 14] (.agg #[.string x.1, .string x.2]) rfl (by rintro w h1; obtain ⟨h2, h3⟩ := HX.out _ (ov.out.same h1); go_simp) hS ?_; try simp only [Act.put, zml, zmm, zmn]
     refine wpT 11 (.slice A2 k c2) rfl (by intro w; go_simp) hS ?_; try simp only [Act.put, zml, zmm, zmn]
     refine wpT 12 (.int .i64 ((0 : Nat) : Int)) rfl (by intro w; go_simp) hS ?_; try simp only [Act.put, zml, zmm, zmn]
     refine wpT 13 (.slice A2 (k - (0)) (c2 - (0))) rfl (by intro w; go_simp) hS ?_; try simp only [Act.put, zml, zmm, zmn]
     refine zd7 0 9 (by kernel_rfl) rfl rfl (by rfl) (by rfl) (fun K hK => ?_) (fun K hK => ?_); go_simp; have o0 := zdH W0 wr.heap.size F0.size; have F1 := F0.alloc (.cells #[] 40); have nC := F0.size; refine hK.out _ _ F1 ?_; clear hK K hS; try simp only [Act.put, zml, zmm, zmn]
     generalize World.alloc W0 (Obj.cells #[] 40) = W1 at o0 F1 ⊢; generalize W0.heap.size = e0 at o0 nC ⊢; have hS := F1; refine zd7 4 9 (by kernel_rfl) rfl rfl (by rfl) (by rfl) (fun K hK => ?_) (fun K hK => ?_)
     refine zaw W1 _ _ 31 31 (by rfl) wr.heap.size 40 i0 _ 2 32 underlying31 aC az ay aB rfl (by decide) (.slice (some ⟨e0, 0, none⟩) 0 0) 0 [] (by rfl) o0 (.slice A2 (0) c2) (0) ((o.take (0)).flatMap zaK) (by rfl) (eG.out _ F1) (by unfold maxLen; omega) (by omega) F1.size ?_; intro v1 W2 am aH eC; rw [zmM, zmT] at am
     have F2 := F1.grown aH (fun q hq => .inr (by have hq : e0 = q := zm6 hq; omega)); obtain ⟨a1, n1, k1, rfl⟩ := zab am; refine hK.out _ _ F2 ?_; clear hK K hS aH eC; try simp only [Act.put, zml, zmm, zmn]
     have hS := F2; refine zao 9 (by kernel_rfl) rfl (by rfl) (fun K hK => ?_); go_simp; have B9 : Blk (W2.alloc (.cells #[.string x.1, .string x.2] 40)) W2.heap.size 40 #[.string x.1, .string x.2] := znm W2 40 _; have F3 := F2.alloc (.cells #[.string x.1, .string x.2] 40); have ew := World.ownsRow.alloc am (.cells #[.string x.1, .string x.2] 40); refine hK.out _ _ F3 ?_; clear hK K hS
     try simp only [Act.put, zml, zmm, zmn]
     generalize World.alloc W2 (Obj.cells #[.string x.1, .string x.2] 40) = W3 at B9 F3 ew ⊢; generalize W2.heap.size = g9 at B9 ⊢; have hS := F3; have OX := ew; have BX := B9
     rotate_left
     go_simp; have B9 : Blk (W1.alloc (.cells #[.string x.1, .string x.2] 40)) W1.heap.size 40 #[.string x.1, .string x.2] := znm W1 40 _; have F2 := F1.alloc (.cells #[.string x.1, .string x.2] 40); have pr := World.ownsRow.alloc o0 (.cells #[.string x.1, .string x.2] 40); have ex : W1.heap.size ≠ e0 := fun e => by have h := zaq o0 (k := e0) rfl; omega
     refine hK.out _ _ F2 ?_; clear hK K hS; try simp only [Act.put, zml, zmm, zmn]
     generalize World.alloc W1 (Obj.cells #[.string x.1, .string x.2] 40) = W2 at B9 F2 pr ⊢; generalize W1.heap.size = g9 at B9 ex ⊢; have hS := F2; refine zao 4 (by kernel_rfl) rfl (by rfl) (fun K hK => ?_)
     refine zaw W2 _ _ 31 31 (by rfl) wr.heap.size 40 i0 _ 2 32 underlying31 aC az ay aB rfl (by decide) (.slice (some ⟨e0, 0, none⟩) 0 0) 0 [] (by rfl) pr (.slice A2 (0) c2) (0) ((o.take (0)).flatMap zaK) (by rfl) (eG.out _ F2) (by unfold maxLen; omega) (by omega) F2.size ?_; intro v1 W3 am aH eC; rw [zmM, zmT] at am
     have F3 := F2.grown aH (fun q hq => .inr (by have hq : e0 = q := zm6 hq; omega)); have lW := B9.grown aH (fun e => ex (zm6 e)); obtain ⟨a1, n1, k1, rfl⟩ := zab am; refine hK.out _ _ F3 ?_; clear hK K hS aH eC; try simp only [Act.put, zml, zmm, zmn]
     have hS := F3; have OX := am; have BX := lW
     rotate_left
     go_simp; have B9 : Blk (W0.alloc (.cells #[.string x.1, .string x.2] 40)) W0.heap.size 40 #[.string x.1, .string x.2] := znm W0 40 _; have F1 := F0.alloc (.cells #[.string x.1, .string x.2] 40); refine hK.out _ _ F1 ?_; clear hK K hS; try simp only [Act.put, zml, zmm, zmn]
     generalize World.alloc W0 (Obj.cells #[.string x.1, .string x.2] 40) = W1 at B9 F1 ⊢; generalize W0.heap.size = g9 at B9 ⊢; have hS := F1; refine zao 0 (by kernel_rfl) rfl (by rfl) (fun K hK => ?_); go_simp; have o0 := zdH W1 wr.heap.size F1.size; have F2 := F1.alloc (.cells #[] 40); have nC := F1.size; have ex : g9 ≠ W1.heap.size := Nat.ne_of_lt B9.lt
     have lW := B9.alloc (.cells #[] 40); refine hK.out _ _ F2 ?_; clear hK K hS; try simp only [Act.put, zml, zmm, zmn]
     generalize World.alloc W1 (Obj.cells #[] 40) = W2 at o0 F2 lW ⊢; generalize W1.heap.size = e0 at o0 nC ex ⊢; have hS := F2; refine zao 4 (by kernel_rfl) rfl (by rfl) (fun K hK => ?_)
     refine zaw W2 _ _ 31 31 (by rfl) wr.heap.size 40 i0 _ 2 32 underlying31 aC az ay aB rfl (by decide) (.slice (some ⟨e0, 0, none⟩) 0 0) 0 [] (by rfl) o0 (.slice A2 (0) c2) (0) ((o.take (0)).flatMap zaK) (by rfl) (eG.out _ F2) (by unfold maxLen; omega) (by omega) F2.size ?_; intro v1 W3 am aH eC; rw [zmM, zmT] at am
     have F3 := F2.grown aH (fun q hq => .inr (by have hq : e0 = q := zm6 hq; omega)); have B9c := lW.grown aH (fun e => ex (zm6 e)); obtain ⟨a1, n1, k1, rfl⟩ := zab am; refine hK.out _ _ F3 ?_; clear hK K hS aH eC; try simp only [Act.put, zml, zmm, zmn]
     have hS := F3; have OX := am; have BX := B9c
     rotate_left
     all_goals
      refine zao 10 (by kernel_rfl) rfl (by rfl) (fun K hK => ?_); refine zaw W3 _ _ 31 31 (by rfl) wr.heap.size 40 i0 _ 2 32 underlying31 aC az ay aB rfl (by decide) (.slice a1 n1 k1) (0) ((o.take (0)).flatMap zaK) (by rfl) OX _ 1 (zaK x) (by rfl) (zaF (cs := zaK x) underlying31 BX rfl (by simp [zaK, Value.oneCell'])) (by unfold maxLen; omega) (by omega) F3.size ?_
      intro v2 W4 af eB bA; have F4 := F3.grown eB (fun q hq => .inr ((World.ownsRow.lt OX q hq).1)); obtain ⟨a2, n2, k2, rfl⟩ := zab af; refine hK.out _ _ F4 ?_; clear hK K hS eB bA; try simp only [Act.put, zml, zmm, zmn]
      have hS := F4; refine zaA 14 (by kernel_rfl) rfl (by kernel_rfl) (by rfl) (fun K hK => ?_)
      refine zaw W4 _ _ 31 31 (by rfl) wr.heap.size 40 i0 _ 2 32 underlying31 aC az ay aB rfl (by decide) (.slice a2 n2 k2) (0 + 1) ((o.take (0)).flatMap zaK ++ zaK x) (by rfl) af (.slice A2 (k - (0)) (c2 - (0))) (k - (0)) ((o.drop (0)).flatMap zaK) (by rfl) (jX.out _ F4) (by unfold maxLen; omega) (by omega) F4.size ?_; intro v3 W5 aE eA iP
      have F5 := F4.grown eA (fun q hq => .inr ((World.ownsRow.lt af q hq).1)); obtain ⟨a3, n3, k3, rfl⟩ := zab aE; have aV : W5.ownsRow w.heap.size 40 2 (.slice a3 n3 k3) (k + 1) ((zaI (l.take (k + 1))).flatMap zaK) := by
       rw [jk.out, ol.out]; have e1 : 0 + 1 + (k - (0)) = k + 1 := by omega
       rw [e1] at aE; have h := zah aE ni; simpa [zmQ, zmw] using h
      have dj := zmh aV; have iw := zmh (ov.out.same F5); refine hK.out _ _ ?_; clear hK K hS eA iP aE aV; try simp only [Act.put, zml, zmm, zmn]
      refine zaA 15 (by kernel_rfl) rfl (by kernel_rfl) (by rfl) (fun K hK => ?_); go_simp; refine hK.out _ _ ?_; clear hK K; refine zbv (by kernel_rfl) ?_ _; go_wp2; go_roundw
      case rel => exact ⟨k + 1, by omega, by go_num, dj, iw⟩
      case measure => simp [intOf]; omega
    ·obtain ⟨g2, an, rfl, _, aj⟩ : ∃ g2 an, A2 = some ⟨g2, an, none⟩ /\ True /\ ∀ i u, (o.flatMap zaK)[i]? = some u -> (_ : World).cell? ⟨g2, an + i, none⟩ = some u := by
      obtain ⟨A3, c3, e3, _, _, h3⟩ := iY.out; injection e3 with e1 _ e2; subst e1 e2; obtain ⟨g2, an, h4, _, h5⟩ := h3 (by omega); exact ⟨g2, an, h4, trivial, h5⟩
     obtain ⟨y, hy⟩ : ∃ y, o[j]? = some y := ⟨_, zmj (by rw [HL.out]; omega)⟩; have d0 : wr.drew.cell? ⟨g, off + k * 2, none⟩ = some (.string x.1) := (HX.out _ ov.out.drew).1; have d1 : wr.drew.cell? ⟨g2, an + j * 2, none⟩ = some (.string y.1) := by
      have := aj (j * 2 + 0) (.string y.1) (by rw [zby zaK (fun _ => rfl) o j y hy 0 (by omega)]; rfl); have h6 := bu.out.drew.cell (p := ⟨g2, an + j * 2, none⟩) (zmo _ _ this) id; rw [h6]; exact this
     have HY := zmh hy; have bB := zmh bu.out.drew; clear aj hy; by_cases hxy : ltL x y = true
     ·have mt : Op.bytesLess x.1.toList y.1.toList = true := by rw [zkQ, hxy]
      have HJ3 : Hid (zh0 ltL x o k = zh0 ltL x o j) := zmh (by
       rw [HJ.out, zh0, HY.out]
       simp [hxy])
      clear hxy; go_wp2; go_region; all_goals go_wp2
      exact ⟨⟨j, by omega, by first | rfl | go_num, HJ3, bB⟩, by simp [intOf]; try omega⟩
     ·have mX : ltL x y = false := by simpa using hxy
      have mt : Op.bytesLess x.1.toList y.1.toList = false := by rw [zkQ, mX]
      have HP : Hid (zh0 ltL x o o.length = j + 1) := zmh (by
       rw [HL.out, HJ.out, zh0, HY.out]
       simp [mX])
      clear hxy mX; go_wp2; go_region; all_goals go_wp2
      clear d0 d1 mt; generalize some (⟨g2, an, none⟩ : Addr) = A2 at *
      have jY : Hid (∀ W, z_F wr W -> Sl (fun g => (Value.slice A2 k c2).ownBlock = some g) W (.slice A2 k c2) 2 k (o.flatMap zaK)) := zmh (fun W hW => (iY.out.fr (bu.out.same hW) z_i)); have hjk : j + 1 <= k := by omega
      obtain ⟨A3, mg, jw⟩ := sl_drop iY.out HL.out hjk; have nd := cutTo zie underlying31 size40 A2 k c2 (j + 1) .i64 ((j + 1 : Nat) : Int) rfl (by have h := iY.out; obtain ⟨_, _, e, _, h, _⟩ := h; injection e with e1 e2 e3; omega)
      have eG : Hid (∀ W, z_F wr W -> Src prog 2 31 (.slice A2 (j + 1) c2) (j + 1) ((o.take (j + 1)).flatMap zaK) W) := zmh (fun W hW => zbp underlying31 (sl_take (jY.out W hW) HL.out hjk) (zfV _))
      have jX : Hid (∀ W, z_F wr W -> Src prog 2 31 (.slice A3 (k - (j + 1)) (c2 - (j + 1))) (k - (j + 1)) ((o.drop (j + 1)).flatMap zaK) W) := zmh (fun W hW => zbp underlying31 (jw W (jY.out W hW)) (zfV _)); have jG : zjs ltL o x = o.take (j + 1) ++ x :: o.drop (j + 1) := by unfold zjs; rw [HP.out]
      have hrun3b : ∀ W, (Instr.slice 31 (.slice A2 k c2) (some (.int .i64 ((j : Int) + 1))) none none).run prog W = .ok (.slice A3 (k - (j + 1)) (c2 - (j + 1))) W := mg; have htob : ∀ W, (Instr.slice 31 (.slice A2 k c2) none (some (.int .i64 ((j : Int) + 1))) none).run prog W = .ok (.slice A2 (j + 1) c2) W := nd; clear mg nd; have ol := zmh jG
      have ni := ov.out.size; clear jG jw jY; refine zaQ (fun w' => z_F wr w') 14 (by kernel_rfl) ((znl _ wr).drew.drew) ?_; intro hS; have F0 : z_F wr wr.drew.drew := (znl _ wr).drew.drew; generalize wr.drew.drew = W0 at F0 hS ⊢; refine wpT 1 (.slice A2 k c2) rfl (by intro w; go_simp) hS ?_
      try simp only [Act.put, zml, zmm, zmn]
      refine wpT 2 (.int .i64 ((j + 1 : Nat) : Int)) rfl (by intro w; go_simp) hS ?_; try simp only [Act.put, zml, zmm, zmn]
      refine wpT 3 (.slice A2 (j + 1) c2) rfl (by intro w; go_simp) hS ?_; try simp only [Act.put, zml, zmm, zmn]
      refine wpT 5 (.slice (some ⟨g, off, none⟩) n c) rfl (by intro w; go_simp) hS ?_; try simp only [Act.put, zml, zmm, zmn]
      refine wpT 6 (.int .i64 k) rfl (by intro w; go_simp) hS ?_; try simp only [Act.put, zml, zmm, zmn]
      refine wpT 7 (.pointer (some ⟨g, off + k * 2, none⟩)) rfl (by intro w; go_simp) hS ?_; try simp only [Act.put, zml, zmm, zmn]
      refine wpL 8 [9, 10, 14] (.agg #[.string x.1, .string x.2]) rfl (by rintro w h1; obtain ⟨h2, h3⟩ := HX.out _ (ov.out.same h1); go_simp) hS ?_; try simp only [Act.put, zml, zmm, zmn]
      refine wpT 11 (.slice A2 k c2) rfl (by intro w; go_simp) hS ?_; try simp only [Act.put, zml, zmm, zmn]
      refine wpT 12 (.int .i64 ((j + 1 : Nat) : Int)) rfl (by intro w; go_simp) hS ?_; try simp only [Act.put, zml, zmm, zmn]
      refine wpT 13 (.slice A3 (k - (j + 1)) (c2 - (j + 1))) rfl (by intro w; go_simp) hS ?_; try simp only [Act.put, zml, zmm, zmn]
      refine zd7 0 9 (by kernel_rfl) rfl rfl (by rfl) (by rfl) (fun K hK => ?_) (fun K hK => ?_); go_simp; have o0 := zdH W0 wr.heap.size F0.size; have F1 := F0.alloc (.cells #[] 40); have nC := F0.size; refine hK.out _ _ F1 ?_; clear hK K hS; try simp only [Act.put, zml, zmm, zmn]
      generalize World.alloc W0 (Obj.cells #[] 40) = W1 at o0 F1 ⊢; generalize W0.heap.size = e0 at o0 nC ⊢; have hS := F1; refine zd7 4 9 (by kernel_rfl) rfl rfl (by rfl) (by rfl) (fun K hK => ?_) (fun K hK => ?_)
      refine zaw W1 _ _ 31 31 (by rfl) wr.heap.size 40 i0 _ 2 32 underlying31 aC az ay aB rfl (by decide) (.slice (some ⟨e0, 0, none⟩) 0 0) 0 [] (by rfl) o0 (.slice A2 (j + 1) c2) (j + 1) ((o.take (j + 1)).flatMap zaK) (by rfl) (eG.out _ F1) (by unfold maxLen; omega) (by omega) F1.size ?_; intro v1 W2 am aH eC; rw [zmM, zmT] at am
      have F2 := F1.grown aH (fun q hq => .inr (by have hq : e0 = q := zm6 hq; omega)); obtain ⟨a1, n1, k1, rfl⟩ := zab am; refine hK.out _ _ F2 ?_; clear hK K hS aH eC; try simp only [Act.put, zml, zmm, zmn]
      have hS := F2; refine zao 9 (by kernel_rfl) rfl (by rfl) (fun K hK => ?_); go_simp; have B9 : Blk (W2.alloc (.cells #[.string x.1, .string x.2] 40)) W2.heap.size 40 #[.string x.1, .string x.2] := znm W2 40 _; have F3 := F2.alloc (.cells #[.string x.1, .string x.2] 40); have ew := World.ownsRow.alloc am (.cells #[.string x.1, .string x.2] 40); refine hK.out _ _ F3 ?_; clear hK K hS
      try simp only [Act.put, zml, zmm, zmn]
      generalize World.alloc W2 (Obj.cells #[.string x.1, .string x.2] 40) = W3 at B9 F3 ew ⊢; generalize W2.heap.size = g9 at B9 ⊢; have hS := F3; have OX := ew; have BX := B9
      rotate_left
      go_simp; have B9 : Blk (W1.alloc (.cells #[.string x.1, .string x.2] 40)) W1.heap.size 40 #[.string x.1, .string x.2] := znm W1 40 _; have F2 := F1.alloc (.cells #[.string x.1, .string x.2] 40); have pr := World.ownsRow.alloc o0 (.cells #[.string x.1, .string x.2] 40); have ex : W1.heap.size ≠ e0 := fun e => by have h := zaq o0 (k := e0) rfl; omega
      refine hK.out _ _ F2 ?_; clear hK K hS; try simp only [Act.put, zml, zmm, zmn]
      generalize World.alloc W1 (Obj.cells #[.string x.1, .string x.2] 40) = W2 at B9 F2 pr ⊢; generalize W1.heap.size = g9 at B9 ex ⊢; have hS := F2; refine zao 4 (by kernel_rfl) rfl (by rfl) (fun K hK => ?_)
      refine zaw W2 _ _ 31 31 (by rfl) wr.heap.size 40 i0 _ 2 32 underlying31 aC az ay aB rfl (by decide) (.slice (some ⟨e0, 0, none⟩) 0 0) 0 [] (by rfl) pr (.slice A2 (j + 1) c2) (j + 1) ((o.take (j + 1)).flatMap zaK) (by rfl) (eG.out _ F2) (by unfold maxLen; omega) (by omega) F2.size ?_; intro v1 W3 am aH eC; rw [zmM, zmT] at am
      have F3 := F2.grown aH (fun q hq => .inr (by have hq : e0 = q := zm6 hq; omega)); have lW := B9.grown aH (fun e => ex (zm6 e)); obtain ⟨a1, n1, k1, rfl⟩ := zab am; refine hK.out _ _ F3 ?_; clear hK K hS aH eC; try simp only [Act.put, zml, zmm, zmn]
      have hS := F3; have OX := am; have BX := lW
      rotate_left
      go_simp; have B9 : Blk (W0.alloc (.cells #[.string x.1, .string x.2] 40)) W0.heap.size 40 #[.string x.1, .string x.2] := znm W0 40 _; have F1 := F0.alloc (.cells #[.string x.1, .string x.2] 40); refine hK.out _ _ F1 ?_; clear hK K hS; try simp only [Act.put, zml, zmm, zmn]
      generalize World.alloc W0 (Obj.cells #[.string x.1, .string x.2] 40) = W1 at B9 F1 ⊢; generalize W0.heap.size = g9 at B9 ⊢; have hS := F1; refine zao 0 (by kernel_rfl) rfl (by rfl) (fun K hK => ?_); go_simp; have o0 := zdH W1 wr.heap.size F1.size; have F2 := F1.alloc (.cells #[] 40); have nC := F1.size; have ex : g9 ≠ W1.heap.size := Nat.ne_of_lt B9.lt
      have lW := B9.alloc (.cells #[] 40); refine hK.out _ _ F2 ?_; clear hK K hS; try simp only [Act.put, zml, zmm, zmn]
      generalize World.alloc W1 (Obj.cells #[] 40) = W2 at o0 F2 lW ⊢; generalize W1.heap.size = e0 at o0 nC ex ⊢; have hS := F2; refine zao 4 (by kernel_rfl) rfl (by rfl) (fun K hK => ?_)
      refine zaw W2 _ _ 31 31 (by rfl) wr.heap.size 40 i0 _ 2 32 underlying31 aC az ay aB rfl (by decide) (.slice (some ⟨e0, 0, none⟩) 0 0) 0 [] (by rfl) o0 (.slice A2 (j + 1) c2) (j + 1) ((o.take (j + 1)).flatMap zaK) (by rfl) (eG.out _ F2) (by unfold maxLen; omega) (by omega) F2.size ?_; intro v1 W3 am aH eC; rw [zmM, zmT] at am
      have F3 := F2.grown aH (fun q hq => .inr (by have hq : e0 = q := zm6 hq; omega)); have B9c := lW.grown aH (fun e => ex (zm6 e)); obtain ⟨a1, n1, k1, rfl⟩ := zab am; refine hK.out _ _ F3 ?_; clear hK K hS aH eC; try simp only [Act.put, zml, zmm, zmn]
      have hS := F3; have OX := am; have BX := B9c
      rotate_left
      all_goals
       refine zao 10 (by kernel_rfl) rfl (by rfl) (fun K hK => ?_)
       refine zaw W3 _ _ 31 31 (by rfl) wr.heap.size 40 i0 _ 2 32 underlying31 aC az ay aB rfl (by decide) (.slice a1 n1 k1) (j + 1) ((o.take (j + 1)).flatMap zaK) (by rfl) OX _ 1 (zaK x) (by rfl) (zaF (cs := zaK x) underlying31 BX rfl (by simp [zaK, Value.oneCell'])) (by unfold maxLen; omega) (by omega) F3.size ?_; intro v2 W4 af eB bA
       have F4 := F3.grown eB (fun q hq => .inr ((World.ownsRow.lt OX q hq).1)); obtain ⟨a2, n2, k2, rfl⟩ := zab af; refine hK.out _ _ F4 ?_; clear hK K hS eB bA; try simp only [Act.put, zml, zmm, zmn]
       have hS := F4; refine zaA 14 (by kernel_rfl) rfl (by kernel_rfl) (by rfl) (fun K hK => ?_)
       refine zaw W4 _ _ 31 31 (by rfl) wr.heap.size 40 i0 _ 2 32 underlying31 aC az ay aB rfl (by decide) (.slice a2 n2 k2) (j + 1 + 1) ((o.take (j + 1)).flatMap zaK ++ zaK x) (by rfl) af (.slice A3 (k - (j + 1)) (c2 - (j + 1))) (k - (j + 1)) ((o.drop (j + 1)).flatMap zaK) (by rfl) (jX.out _ F4) (by unfold maxLen; omega) (by omega) F4.size ?_; intro v3 W5 aE eA iP
       have F5 := F4.grown eA (fun q hq => .inr ((World.ownsRow.lt af q hq).1)); obtain ⟨a3, n3, k3, rfl⟩ := zab aE; have aV : W5.ownsRow w.heap.size 40 2 (.slice a3 n3 k3) (k + 1) ((zaI (l.take (k + 1))).flatMap zaK) := by
        rw [jk.out, ol.out]; have e1 : j + 1 + 1 + (k - (j + 1)) = k + 1 := by omega
        rw [e1] at aE; have h := zah aE ni; simpa [zmQ, zmw] using h
       have dj := zmh aV; have iw := zmh (ov.out.same F5); refine hK.out _ _ ?_; clear hK K hS eA iP aE aV; try simp only [Act.put, zml, zmm, zmn]
       refine zaA 15 (by kernel_rfl) rfl (by kernel_rfl) (by rfl) (fun K hK => ?_); go_simp; refine hK.out _ _ ?_; clear hK K; refine zbv (by kernel_rfl) ?_ _; go_wp2; go_roundw
       case rel => exact ⟨k + 1, by omega, by go_num, dj, iw⟩
       case measure => simp [intOf]; omega
  ·go_wp2
   go_ret; obtain rfl : k = n := by omega
   have e : l.take k = l := zmq (by rw [HN.out]; exact zmt _); have h := HO.out; rw [e] at h; exact ⟨_, rfl, h, HF.out⟩
structure Ser where
 ref : Nat
 labs : List Lab
def zfP (p : Ser × Value) : List Value := [.int .u64 p.1.ref, p.2]
def SlR (P : Nat -> Prop) (w : World) (v : Value) (lv : List (Ser × Value)) : Prop :=
 Sl P w v 2 lv.length (lv.flatMap zfP) /\ ∀ p ∈ lv, Sl P w p.2 2 p.1.labs.length (p.1.labs.flatMap zaK)
theorem SlR.fr {P S : Nat -> Prop} {w w' : World} {v : Value} {lv : List (Ser × Value)} (h : SlR P w v lv) (hf : Fr S w w') (hs : ∀ g, P g -> ¬ S g) : SlR P w' v lv :=
 ⟨h.1.fr hf hs, fun p hp => (h.2 p hp).fr hf hs⟩
def sero (x : Ser) : List Value := [.int .u64 x.ref, .string (zau (zaI x.labs))]
theorem info127 : (prog.info? 127).map (fun i => (i.zero, i.size, i.bytes)) = some (some (.agg #[.int .u64 0, .string ⟨#[]⟩]), 2, 24) := by kernel_rfl
theorem made_ok (P : Nat -> Prop) (v : Value) (l : List Lab) (w : World) (h : Sl P w v 2 l.length (l.flatMap zaK)) (hl : LabOk l 12 600) :
 Calls prog 54 #[v] w fun r w' => r = .returned (.agg #[.string (zau (zaI l))]) /\ z_F w w' := by
 refine (made_any P v l w h hl.1 (fun p hp => by have := hl.2.1 p hp; omega)).mono ?_; rintro r w' ⟨l', h1, h2, rfl, hf⟩; exact ⟨by rw [zf7 l l' h1 h2 hl.2.2], hf⟩
def zis (w : World) (l : List Ser) (r : Ending) (w' : World) : Prop :=
 ∃ v, r = .returned v /\ w'.ownsRow w.heap.size 127 2 v l.length (l.flatMap sero) /\ z_F w w'
theorem zeR (P : Nat -> Prop) (v : Value) (lv : List (Ser × Value)) (w : World) (h : SlR P w v lv) (hl : lv.length <= 1099511627776) (aP : ∀ p ∈ lv, LabOk p.1.labs 12 600) :
 Calls prog 69 #[v] w (zis w (lv.map Prod.fst)) := by
 have mixed : prog.follows .mixedOrders = true := by kernel_rfl
 obtain ⟨⟨A, c, rfl, ai, aQ, hr⟩, hin⟩ := h; obtain ⟨n, hn⟩ := exE lv.length; rw [hn] at hr aQ hl ⊢; have HN := zmh hn; have HR := zmh hr; have HI := zmh hin
 have gz := zmh aP; obtain ⟨i0, aC, az, ay, aB⟩ := info_parts info127; clear hn hr ai hin aP; go_enter func69, ntmps69; go_wp2; go_loopw [2, 7] (fun v i wr => ∃ k : Nat, k <= n /\ i = .int .i64 k /\ Hid (wr.ownsRow w.heap.size 127 2 v k (((lv.map Prod.fst).take k).flatMap sero)) /\ Hid (z_F w wr)) (fun _ i _ => n - (intOf i).toNat)
 case atStart => exact ⟨0, zms _, rfl, zmh (zmv _ _ _ _), zmh (znl _ _)⟩
 case round =>
  obtain ⟨k, hk, rfl, HO, HF⟩ := hrel; by_cases hlt : k < n
  ·obtain ⟨g, off, rfl, _, aa⟩ := HR.out (by omega)
   obtain ⟨x, hx⟩ : ∃ x, lv[k]? = some x := ⟨_, zmj (by rw [HN.out]; exact hlt)⟩; have cc : ∀ j, j < 2 -> ∀ u, (zfP x)[j]? = some u -> wr.cell? ⟨g, off + (k * 2 + j), none⟩ = some u := fun j hj u hu => by
    have := aa (k * 2 + j) u (by rw [zby zfP (fun _ => rfl) lv k x hx j hj]; exact hu); rw [HF.out.cell (p := ⟨g, off + (k * 2 + j), none⟩) (zmo w _ this) id]; exact this
   have c0 : wr.cell? ⟨g, off + k * 2, none⟩ = some (.int .u64 x.1.ref) := cc 0 (by omega) _ rfl; have c1 : wr.cell? ⟨g, off + k * 2 + 1, none⟩ = some x.2 := cc 1 (by omega) _ rfl; have aF := zmp hx; have aY := HI.out x aF; have bF := gz.out x aF; have dI : (lv.map Prod.fst)[k]? = some x.1 := by rw [zmR, hx]; rfl
   obtain ⟨⟨ref, labs⟩, iv⟩ := x; simp only [] at c0 c1 aY bF dI; have jI : ∃ A m c, iv = .slice A m c := let ⟨A, c, h, _⟩ := aY; ⟨A, _, c, h⟩
   obtain ⟨Ai, mi, ci, rfl⟩ := jI; have HX := zmh dI; obtain ⟨a', n', k', rfl⟩ := zab HO.out; clear aa cc hx aF dI; go_wp2_with fail
   have ch := znm wr 130 #[.int .u64 ref, .slice Ai mi ci]; have s0 := ch.cell 0; have s1 := ch.cell 1; simp only [zmC, zmA, zmB] at s0 s1; have bD := HF.out.size; have cO := zmh ch
   have hC := made_ok P (.slice Ai mi ci) labs (wr.alloc (.cells #[.int .u64 ref, .slice Ai mi ci] 130)).drew (aY.fr (HF.out.alloc _).drew z_i) bF; obtain ⟨st, bg⟩ := exE (zau (zaI labs)); rw [bg] at hC; have jk := zmh bg; clear ch aY bg bF; have mY : (wr.alloc (.cells #[.int .u64 ref, .slice Ai mi ci] 130)).drew.heap.size = wr.heap.size + 1 := by simp
   go_region_held3 (fun w' => w'.cell? ⟨wr.heap.size, 0, none⟩ = some (.int .u64 ref) /\ w'.cell? ⟨wr.heap.size, 1, none⟩ = some (.slice Ai mi ci))
    ((first | (go_split_ands; refine ⟨?_, ?_⟩ <;> first | exact ef.out.cell 0 | exact ef.out.cell 1) | (go_split_ands; refine ⟨?_, ?_⟩ <;> first | exact (cC.out.alloc _).cell 0 | exact (cC.out.alloc _).cell 1) | (go_split_ands; refine ⟨?_, ?_⟩ <;> first | exact cC.out.cell 0 | exact cC.out.cell 1) | go_keep))
    ((first
      | (go_at_call 54; refine hC.mono ?_; rintro r5 w5 ⟨rfl, ap⟩; have cC := zmh (cO.out.drew.fr ap id); have F5 := zmh (((znl (fun _ => False) wr).alloc (.cells #[.int .u64 ref, .slice Ai mi ci] 130)).drew.same ap); have O5 := zmh (zai HO.out F5.out z_i); have lZ := F5.out.size)
      | (refine zat _ (by rfl) _ _ 121 121 (by rfl) w.heap.size 127 i0 _ 2 24 underlying121 aC az ay aB rfl (by decide) (.slice a' n' k') k (((lv.map Prod.fst).take k).flatMap sero) (by rfl) (O5.out.alloc _) _ 1 [.int .u64 ref, .string st] (by rfl) (zaF underlying121 (znm w5 127 #[.int .u64 ref, .string st]) rfl (by simp [Value.oneCell'])) (by unfold maxLen; omega) (by omega) (by simp; omega) ?_; intro v' w2 ac ad av; have ef := zmh ((cC.out.alloc (.cells #[.int .u64 ref, .string st] 127)).grown ad (fun e => zm1 _ (zaq HO.out e.symm))))))
   have NO : Hid (w2.ownsRow w.heap.size 127 2 v' (k + 1) (((lv.map Prod.fst).take (k + 1)).flatMap sero)) := zmh (by
    rw [zam sero _ k _ HX.out]; unfold sero; rw [jk.out]
    exact ac)
   have NF : Hid (z_F w w2) := zmh (((HF.out.same F5.out).alloc _).grown ad (fun g hg => .inr ((HO.out.lt g hg).1))); clear ac ad av c0 c1 s0 s1 hC ap ef O5; go_wp2; go_roundw
   case rel => exact ⟨k + 1, by omega, by go_num, NO, NF⟩
   case measure => simp [intOf]; omega
  ·go_wp2
   go_ret; obtain rfl : k = n := by omega
   have h := HO.out; have e : (lv.map Prod.fst).take k = lv.map Prod.fst := zmq (by rw [zmF, HN.out]; exact zmt _); rw [e] at h; refine ⟨_, rfl, ?_, HF.out⟩; rw [zmF, HN.out]; exact h
structure SerD where
 ref : Nat
 labs : List Lab
def ziA (x : SerD) : List Value := [.int .u64 x.ref, .string (zau x.labs)]
def zfW (st : St) : List Lab × St := za9 (gUv st).2 (gUv st).1
def zbd (st : St) : SerD × St := (⟨(zac st).1, (zfW (zac st).2).1⟩, (zfW (zac st).2).2)
def zfp (st : St) : Prop := (gUv st).1 <= 4096 /\ (∀ k, k < (gUv st).1 -> (gUv (za9 (gUv st).2 k).2).1 < 9223372036854775808 /\ (gUv (zce (za9 (gUv st).2 k).2).2).1 < 9223372036854775808) /\ ∀ p ∈ (zfW st).1, p.1.size <= 1048576 /\ p.2.size <= 1048576
def zdS (st : St) : Prop := zfp (zac st).2
def zbk (xs : List UInt8) : Option (List SerD) := zbn 1 zbd xs
theorem zeG (st : St) : ∀ k, (za9 st k).1.length = k
 | 0 => rfl
 | k + 1 => by
   show ((za9 st k).1 ++ [_]).length = k + 1; rw [zmi, zeG st k]; rfl
theorem ziX {st : St} {l : List UInt8} (h : (zce st).2 = some l) : ∃ l0, st = some l0 /\ l.length <= l0.length := by
 rcases st with _ | l0
 ·have : zce none = (⟨#[]⟩, none) := rfl
  rw [this] at h; cases h
 ·exact ⟨l0, rfl, (ziW l0 (zce (some l0)).1 (zce (some l0)).2 rfl).2 l h⟩
theorem zhq (st : St) : ∀ (k : Nat) (l : List UInt8), (za9 st k).2 = some l -> ∃ l0, st = some l0 /\ l.length <= l0.length
 | 0, l, h => ⟨l, h, zmt _⟩
 | k + 1, l, h => by
   obtain ⟨l1, h1, e1⟩ := ziX (st := (zce (za9 st k).2).2) h; obtain ⟨l2, h2, e2⟩ := ziX h1; obtain ⟨l3, h3, e3⟩ := zhq st k l2 h2; exact ⟨l3, h3, by omega⟩
theorem zkS {st : St} {l : List UInt8} (h : (zfW st).2 = some l) : ∃ l0, st = some l0 /\ l.length < l0.length := by
 obtain ⟨l1, h1, e1⟩ := zhq _ _ _ h; obtain ⟨l2, h2, e2⟩ := zb5 (st := st) h1; exact ⟨l2, h2, by omega⟩
theorem zjL {l0 l : List UInt8} (h : (zbd (some l0)).2 = some l) : l.length < l0.length := by
 obtain ⟨l1, h1, e1⟩ := zkS h; obtain ⟨l2, h2, e2⟩ := zbH (st := some l0) h1; injection h2 with h2; subst h2; omega
theorem own_DS {w w' : World} {b0 d d2 base e size n : Nat} {v : Value} {xs : List Value} {cs : Array Value} (h : w.ownsRow base e size v n xs) (h1 : e ≠ 108) (h2 : e ≠ 119) (hb : Blk w d 119 cs) (hd : ∀ g, v.ownBlock = some g -> g ≠ d2) (hf : Fr (DS w b0 d d2) w w') : w'.ownsRow base e size v n xs :=
 zai h hf (fun g hg k => by
  rcases k with k | k | ⟨_, jU, k⟩
  ·exact hd g hg k
  ·exact zak h hb h2 (by rw [hg, k])
  ·exact zak h k h1 hg)
theorem back_S {w w' : World} {o : Option Nat} {b0 d d2 : Nat} (qj : w.heap.size <= d2) (h : Fr (fun k => some k = o ∨ zdu w b0 d k) w w') (k : Nat) (hk : k < w.heap.size) (hs : DS w' b0 d d2 k) : some k = o ∨ zdu w b0 d k := by
 rcases Classical.em (some k = o ∨ zdu w b0 d k) with hy | hn
 ·exact hy
 ·rcases hs with rfl | rfl | ⟨hb, cs, hc⟩
  ·omega
  ·exact .inr (.inl rfl)
  ·exact .inr (.inr ⟨hb, cs, (h.block k hk hn).symm.trans hc⟩)
def zcH (b0 d : Nat) (w : World) (base : Nat) (o : Option Nat) (pre : List SerD) (xs : List UInt8) (r : Ending) (w' : World) : Prop :=
 Fr (fun k => some k = o ∨ zdu w b0 d k) w w' /\ match zbk xs with
  | some l => ∃ v', r = .returned (.tuple #[v', .nilIface]) /\ w'.ownsRow base 127 2 v' (pre ++ l).length ((pre ++ l).flatMap ziA)
  | none => ∃ t a, r = .returned (.tuple #[.slice none 0 0, .iface t a])
theorem zeP {b0 d : Nat} {w w' : World} {base : Nat} {o : Option Nat} {pre : List SerD} {xs : List UInt8} {t : TypeId} {a : Value} (hd : zbk xs = none) (hf : Fr (fun k => some k = o ∨ zdu w b0 d k) w w') : zcH b0 d w base o pre xs (.returned (.tuple #[.slice none 0 0, .iface t a])) w' := by
 unfold zcH; rw [hd]; exact ⟨hf, _, _, rfl⟩
theorem zhR {b0 d : Nat} {w w' : World} {base : Nat} {o : Option Nat} {pre : List SerD} {xs : List UInt8} {l : List SerD} {v : Value} (hd : zbk xs = some l) (hf : Fr (fun k => some k = o ∨ zdu w b0 d k) w w') (ho : w'.ownsRow base 127 2 v (pre ++ l).length ((pre ++ l).flatMap ziA)) : zcH b0 d w base o pre xs (.returned (.tuple #[v, .nilIface])) w' := by
 unfold zcH; rw [hd]; exact ⟨hf, _, rfl, ho⟩
theorem zjb (te : TypeId) (pe : Value) (b0 d g base : Nat) (cur : Array Value) (pre : List SerD) (xs : List UInt8) (v sv : Value) (w : World) (h : Rec te pe w g cur xs v) (hx : (zaD (some xs)).1 ≠ 1) :
 Calls prog 68 #[.pointer (some ⟨d, 0, none⟩), v, sv] w (zcH b0 d w base sv.ownBlock pre xs) := by
 have hd : zbk xs = none := by
  rcases xs with _ | ⟨b, r⟩
  ·rfl
  ·have : ¬ b = 1 := by rintro rfl; exact hx rfl
   simp [zbk, zbn, this]
 unfold zcH; rw [hd]; clear hd; have hD := h.dec; obtain ⟨off, c, rfl, _⟩ := h; have hQ := zbC te pe w.heap.size g cur _ _ hD; have dS : ¬ ((zaD (some xs)).1 : Int) = 1 := by omega
 clear hD hx; generalize (zaD (some xs)).1 = x at hQ dS; generalize (zaD (some xs)).2 = st at hQ; go_enter func68, ntmps68; go_wp2_with (first | (go_at_call 160; refine hQ.mono ?_; rintro r w1 ⟨rfl, cr, ah⟩) | (go_at_call 161; refine (zbN _ _).mono ?_; rintro r w2 ⟨t, a, rfl, aq⟩))
 go_ret2; refine ⟨?_, _, _, rfl⟩; have f1 := (((znl (fun k => some k = sv.ownBlock ∨ zdu w b0 d k) w).alloc (.cells #[.slice (some ⟨g, off, none⟩) xs.length c, .nilIface] 229)).trans ah (fun k hk e => by omega)); exact f1.trans aq (fun _ _ e => e.elim)
theorem zjc (ak : St -> Prop) (hG : ∀ l, ak (some l) -> zdS (some l) /\ ak (zbd (some l)).2) (te : TypeId) (pe : Value) (b0 d g base : Nat) (cur : Array Value) (pre : List SerD) (rest : List UInt8) (v sv : Value) (w : World) (h : Rec te pe w g cur (1 :: rest) v) (ho : w.ownsRow base 127 2 sv pre.length (pre.flatMap ziA)) (hb : 2 < base /\ base <= w.heap.size /\ g < w.heap.size) (bx : pre.length <= 1073741824) (aZ : ak (some rest))
 (lb : List Lab) (ob : ByteArray) (hB : Bld w b0 d lb ob) (fE : b0 <= w.heap.size /\ 2 < b0 /\ b0 <= d) :
 Calls prog 68 #[.pointer (some ⟨d, 0, none⟩), v, sv] w (zcH b0 d w base sv.ownBlock pre (1 :: rest)) := by
 obtain ⟨i0, aC, az, ay, aB⟩ := info_parts info127; have ii := zmh hG; clear hG; have kC := zmh aZ; clear aZ; have hD := h.dec; obtain ⟨off, c, rfl, _⟩ := h; have hQ := zbC te pe w.heap.size g cur _ _ hD; have e1 : zaD (some (1 :: rest)) = (1, some rest) := rfl; rw [e1] at hQ; have HO := zmh ho; obtain ⟨a', k', rfl⟩ := zaa ho
 have oH : rest.length <= 1099511627776 := by
  obtain ⟨n, off', c', _, _, hn, aQ, _⟩ := hD.open_; have := hn _ rfl; simp at this; omega
 obtain ⟨np, fk⟩ := exE pre.length; have lM := zmh fk; rw [fk] at HO bx ⊢; have HB0 := zmh hB; have hdw : d < w.heap.size := let ⟨_, _, h, _⟩ := hB; h.lt
 clear hD e1 ho fk hB; go_enter func68, ntmps68; go_wp2_with (go_at_call 160; refine hQ.mono ?_; rintro r w1 ⟨rfl, cr, ah⟩; refine Hid.out ?_)
 have F1 : Fr (fun k => some k = (Value.slice a' np k').ownBlock ∨ zdu w b0 d k) w w1 := ((znl (fun k => some k = (Value.slice a' np k').ownBlock ∨ zdu w b0 d k) w).alloc _).trans ah (fun k hk e => by omega); have O1 : w1.ownsRow base 127 2 (.slice a' np k') np (pre.flatMap ziA) := zai (HO.out.alloc _) ah (fun k hk => by have := zaq HO.out hk; omega)
 have B1 : Bld w1 b0 d lb ob := (HB0.out.fr ((znl (fun _ => False) w).alloc _) id (fun _ _ _ e => e)).fr ah (by omega) (fun k hk hc e => by
  obtain ⟨cs, hc⟩ := hc; subst e; have := znm w 229 #[.slice (some ⟨g, off, none⟩) (1 :: rest).length c, .nilIface]
  exact znn hc this (by decide) rfl)
 have bh := F1.size; have eM : ∀ k, (Value.slice a' np k').ownBlock = some k -> k < w.heap.size := fun k hk => zaq HO.out hk; have bX := zmh F1; have de := zmh O1; have cE := zmh B1; have aT := zmh cr; have ir := zmh eM; clear cr ah hQ F1 O1 eM B1; refine zmh ?_; go_wp2_with fail
 go_loopw [2] (fun sv wr => ∃ (st : St) (acc : List SerD) (j : Nat), Hid (Dec te pe wr w.heap.size g cur st) /\ Hid (wr.ownsRow base 127 2 sv (np + acc.length) ((pre ++ acc).flatMap ziA)) /\ Hid (Fr (fun k => some k = (Value.slice a' np k').ownBlock ∨ zdu w b0 d k) w wr) /\ Hid (∀ k, sv.ownBlock = some k -> (some k = (Value.slice a' np k').ownBlock ∨ w.heap.size < k)) /\
  Hid (zaj zbd j st acc = zaj zbd rest.length (some rest) []) /\ Hid (∀ l, st = some l -> l.length <= j /\ acc.length + l.length <= rest.length) /\ acc.length <= rest.length + 1 /\ Hid (ak st) /\ Hid (∃ lb ob, Bld wr b0 d lb ob)) (fun _ wr => zij w.heap.size wr)
 case atStart => exact ⟨some rest, [], rest.length, aT, zmh (by simpa using de.out), bX, zmh (fun k hk => .inl hk.symm), zmh rfl, zmh (fun l hl => by cases hl; simp), by simp, kC, zmh ⟨_, _, cE.out⟩⟩
 case round =>
  obtain ⟨st, acc, j, HD, HO, HF, HB, HE, HL, mC, oo, mT⟩ := hrel; obtain ⟨n6, iA, c6, p0, p1, cK, aQ, hd, hg, h2⟩ := HD.out.open_; have hE := zgS te pe _ _ _ _ _ HD.out; obtain ⟨a6, k6, rfl⟩ := zaa HO.out; rcases st with _ | l
  ·clear cK p1
   have aG : zaj zbd rest.length (some rest) [] = (acc, none) := by rw [<- HE.out]; unfold zaj; rcases j with _ | j <;> rfl
   have HR := zmh (show zbk (1 :: rest) = none from zcW aG); clear aG; simp only [zju] at hE; rcases zmE n6 with rfl | oJ
   ·go_wp2_with (go_at_call 119; refine hE.mono ?_; rintro r w7 ⟨rfl, rfl⟩)
    go_ret2; exact zeP HR.out HF.out
   ·have bY : (0 : Int) < (n6 : Int) := by omega
    go_wp2_with (go_at_call 119; refine hE.mono ?_; rintro r w7 ⟨rfl, rfl⟩)
    go_ret2; exact zeP HR.out HF.out
  ·obtain rfl : n6 = l.length := cK l rfl
   simp only [zju] at hE; rcases l with _ | ⟨x, r⟩
   ·have aG : zaj zbd rest.length (some rest) [] = (acc, some []) := by rw [<- HE.out]; unfold zaj; rcases j with _ | j <;> rfl
    have HR := zmh (show zbk (1 :: rest) = some acc from zcV aG); clear aG cK p1; simp only [zm9] at p0; go_wp2_with (go_at_call 119; refine hE.mono ?_; rintro r w7 ⟨rfl, rfl⟩)
    go_ret2; refine zhR HR.out HF.out ?_; have h := HO.out; rw [zmi, lM.out]; exact h
   ·obtain ⟨n7, bY⟩ := exE ((x :: r).length)
    have mr : (0 : Int) < (n7 : Int) := by rw [<- bY]; simp
    have gm := HL.out _ rfl; have hM := zbo HD.out; rw [bY] at p0 gm hM; have cP := zcA te pe _ _ _ _ _ HD.out; obtain ⟨aW, bR⟩ := ii.out _ oo.out; have eV := zmh bY; obtain ⟨S0, gS⟩ : ∃ S0 : St, some (x :: r) = S0 := ⟨_, rfl⟩; rw [gS] at cP aW bR; have ic := zmh gS; have ot := zmh bR; obtain ⟨v0, eY⟩ := exE ((zac S0).1)
    obtain ⟨S1, hS1⟩ := exE ((zac S0).2); rw [eY, hS1] at cP; unfold zdS at aW; rw [hS1] at aW; have mQ := zmh aW; have o9 := zmh (zm8 eY hS1); clear cK p1 bY gS bR aW eY hS1; have oG := HF.out.size
    go_wp2_with (first
     | (go_at_call 119; refine hE.mono ?_; rintro r w7 ⟨rfl, rfl⟩)
     | (go_at_call 162; refine cP.mono ?_; rintro r w8 ⟨rfl, fF, cB⟩; refine Hid.out ?_))
    obtain ⟨lb8, ob8, ch⟩ := mT.out; obtain ⟨cs8, ft, _, _⟩ := zb6 HD.out; have iU := zhK ch ft cB; have hs8 := cB.size; obtain ⟨LN, lD⟩ := exE ((gUv S1).1); obtain ⟨S2, hS2⟩ := exE ((gUv S1).2); have iJ := mQ.out; unfold zfp zfW at iJ; rw [lD, hS2] at iJ
    have hX := zdz te pe b0 d w.heap.size g cur lb8 ob8 S1 w8 iU fF (by omega) (by omega) (by omega) LN S2 (Prod.ext lD hS2) iJ.1 iJ.2.1 iJ.2.2 (zeG S2); have pX : zfW S1 = za9 S2 LN := by unfold zfW; rw [lD, hS2]
    rw [<- pX] at hX; obtain ⟨ll, dh⟩ := exE ((zfW S1).1); obtain ⟨S3, hS3⟩ := exE ((zfW S1).2); rw [dh, hS3] at hX; obtain ⟨bO, gE⟩ := exE (zau ll)
    have O8 : w8.ownsRow base 127 2 (.slice a6 (np + acc.length) k6) (np + acc.length) ((pre ++ acc).flatMap ziA) := zai HO.out cB (fun k hk e => by
     rcases HB.out k hk with h | h
     ·have := ir.out k h.symm; omega
     ·omega)
    have F8 : Fr (fun k => some k = (Value.slice a' np k').ownBlock ∨ zdu w b0 d k) w w8 := HF.out.trans cB (fun k hk e => by omega); have kF := zmh (show ∃ cs, Blk w8 d 119 cs from let ⟨_, _, h, _⟩ := iU; ⟨_, h⟩); rw [gE] at hX; have HX := zmh hX; have iZ := zmh O8; have fH := zmh F8; have jk := zmh (zm8 dh (zm8 hS3 gE))
    clear hX O8 F8 dh hS3 gE pX iJ lD hS2 iU ft ch fF cB cP p0; refine zmh ?_
    go_wp2_with (first
     | (go_at_call 117; refine HX.out.mono ?_; rintro r w9 ⟨rfl, fh, dY, iU⟩; have rh := zmh fh; have nZ := zmh dY; have rk := zmh iU; clear fh dY iU)
     | (at_builtin; refine Hid.out ?_))
    obtain ⟨cs9, fq⟩ := kF.out; have hs9 := nZ.out.size
    have O9 : w9.ownsRow base 127 2 (.slice a6 (np + acc.length) k6) (np + acc.length) ((pre ++ acc).flatMap ziA) := own_DS iZ.out (by decide) (by decide) fq (fun k hk => by
     rcases HB.out k hk with h | h
     ·have := ir.out k h.symm; omega
     ·omega) nZ.out
    have F9 : Fr (fun k => some k = (Value.slice a' np k').ownBlock ∨ zdu w b0 d k) w w9 := fH.out.trans nZ.out (fun k hk e => back_S (zmt _) fH.out k hk e); have cN := zmh O9; have dP := zmh F9; obtain ⟨q0, q1⟩ := o9.out; obtain ⟨q2, q3, q4⟩ := jk.out; have bg : zbd S0 = (⟨v0, ll⟩, S3) := by unfold zbd; rw [q0, q1, q2, q3]
    have dk : Hid (∀ j', j = j' + 1 -> zaj zbd j' S3 (acc ++ [⟨v0, ll⟩]) = zaj zbd rest.length (some rest) []) := zmh (by
     rintro j' rfl; have h := HE.out; have h2 : zaj zbd (j' + 1) (some (x :: r)) acc = zaj zbd j' (zbd (some (x :: r))).2 (acc ++ [(zbd (some (x :: r))).1]) := rfl; rw [h2, ic.out, bg] at h
     exact h)
    have bi : Hid (∀ l, S3 = some l -> l.length < n7) := zmh (fun l hl => by
     have h := zjL (l0 := x :: r) (l := l) (by rw [ic.out, bg]; exact hl)
     rw [eV.out] at h; exact h)
    have oq : Hid (ak S3) := zmh (by have h := ot.out; rw [bg] at h; exact h); have rI := zmh q4; clear O9 F9 q0 q1 q2 q3 q4 bg hE fq; refine zmh ?_
    refine zaf _ rfl _ _ 121 121 rfl base 127 i0 _ 2 24 underlying121 aC az ay aB rfl (by decide) (.slice a6 (np + acc.length) k6) (np + acc.length) ((pre ++ acc).flatMap ziA) rfl ((cN.out.alloc _).alloc _) _ 1 [.int .u64 v0, .string bO] rfl (zaF underlying121 (zaH w9 _ 127 #[.int .u64 v0, .string bO]) rfl (by simp [Value.oneCell'])) (by unfold maxLen; omega) (by omega) (by simp; omega) ?_
    intro v' w2 ac ad av
    obtain ⟨a9, k9, rfl⟩ := zaa ac
    have aO : ∀ k, (Value.slice a6 (np + acc.length) k6).ownBlock = some k -> base <= k /\ k ≠ w.heap.size := fun k hk => ⟨(cN.out.lt k hk).1, by
     rcases HB.out k hk with h | h
     ·have := ir.out k h.symm; omega
     ·omega⟩
    have iB := ad.size; simp at iB; have fG : Fr (fun k => some k = (Value.slice a6 (np + acc.length) k6).ownBlock) w9 w2 := (((znl (fun k => some k = (Value.slice a6 (np + acc.length) k6).ownBlock) w9).alloc _).alloc _).grown ad (fun k hk => .inl hk.symm); obtain ⟨qW, iO, fV, _⟩ := zb6 rh.out
    have rD : Dec te pe w2 w.heap.size g cur S3 := rh.out.fr fG (fun e => (aO _ e.symm).2 rfl) (fun e => zak cN.out fV (by decide) e.symm) (fun e => by have := (aO _ e.symm).1; omega); have pn : Bld w2 b0 d ll bO := by
     have h2 := rk.out; obtain ⟨_, _, lw, _⟩ := h2; exact rk.out.fr fG (fun e => zak cN.out lw (by decide) e.symm) (fun g' _ hc e => by obtain ⟨cs, hc⟩ := hc; exact zak cN.out hc (by decide) e.symm)
    have rO : w2.ownsRow base 127 2 (.slice a9 (np + acc.length + 1) k9) (np + (acc ++ [(⟨v0, ll⟩ : SerD)]).length) ((pre ++ (acc ++ [(⟨v0, ll⟩ : SerD)])).flatMap ziA) := by
     rw [<- zmk, zmQ, zmi, zmy]; simpa [ziA, rI.out, Nat.add_assoc] using ac
    have rF : Fr (fun k => some k = (Value.slice a' np k').ownBlock ∨ zdu w b0 d k) w w2 := dP.out.trans fG (fun k hk e => by
     rcases HB.out k e.symm with h | h
     ·exact .inl h
     ·omega)
    have rB : ∀ k, (Value.slice a9 (np + acc.length + 1) k9).ownBlock = some k -> (some k = (Value.slice a' np k').ownBlock ∨ w.heap.size < k) := fun k hk => by
     rcases av with h | h
     ·exact HB.out k (h ▸ hk)
     ·rw [h] at hk; injection hk with hk; simp at hk; exact .inr (by omega)
    have rM : zij w.heap.size w2 < n7 + 1 := by
     rcases S3 with _ | l9
     ·rw [zc7 rD]; omega
     ·rw [zbo rD]; have := bi.out l9 rfl; omega
    have RD := zmh rD; have RO := zmh rO; have RF := zmh rF; have RB := zmh rB; have RBL : Hid (∃ lb ob, Bld w2 b0 d lb ob) := zmh ⟨_, _, pn⟩; clear rD rO rF rB pn ac ad av aO fG iO fV; go_wp2; go_roundw
    case rel =>
     obtain ⟨j', rfl⟩ : ∃ j', j = j' + 1 := ⟨j - 1, by have := eV.out; simp at this; omega⟩; refine ⟨S3, acc ++ [⟨v0, ll⟩], j', RD, RO, RF, RB, zmh (dk.out j' rfl), zmh (fun l hl => ?_), by simp; omega, oq, RBL⟩; have := bi.out l hl; rw [zmi, zmy]; omega
    case measure => rw [hM]; exact rM
theorem zkq (ak : St -> Prop) (hG : ∀ l, ak (some l) -> zdS (some l) /\ ak (zbd (some l)).2) (te : TypeId) (pe : Value) (b0 d g base : Nat) (cur : Array Value) (pre : List SerD) (xs : List UInt8) (v sv : Value) (w : World) (h : Rec te pe w g cur xs v) (ho : w.ownsRow base 127 2 sv pre.length (pre.flatMap ziA)) (hb : 2 < base /\ base <= w.heap.size /\ g < w.heap.size) (bx : pre.length <= 1073741824) (aZ : ∀ r, xs = 1 :: r -> ak (some r))
 (lb : List Lab) (ob : ByteArray) (hB : Bld w b0 d lb ob) (fE : b0 <= w.heap.size /\ 2 < b0 /\ b0 <= d) :
 Calls prog 68 #[.pointer (some ⟨d, 0, none⟩), v, sv] w (zcH b0 d w base sv.ownBlock pre xs) := by
 by_cases hx : (zaD (some xs)).1 = 1
 ·rcases xs with _ | ⟨b, rest⟩
  ·exact absurd hx (by decide)
  ·have hb2 : b = 1 := by
    have : b.toNat = (1 : UInt8).toNat := hx; exact UInt8.toNat_inj.1 this
   subst hb2; exact zjc ak hG te pe b0 d g base cur pre rest v sv w h ho hb bx (aZ _ rfl) lb ob hB fE
 ·exact zjb te pe b0 d g base cur pre xs v sv w h hx
structure Exm where
 ref : Nat
 t : Int
 v : Nat
 labs : List Lab
def exc (p : Exm × Value) : List Value := [.int .u64 p.1.ref, .int .i64 p.1.t, .int .u64 p.1.v, p.2]
def SlX (P : Nat -> Prop) (w : World) (v : Value) (lv : List (Exm × Value)) : Prop :=
 Sl P w v 4 lv.length (lv.flatMap exc) /\ ∀ p ∈ lv, Sl P w p.2 2 p.1.labs.length (p.1.labs.flatMap zaK)
theorem SlX.fr {P S : Nat -> Prop} {w w' : World} {v : Value} {lv : List (Exm × Value)} (h : SlX P w v lv) (hf : Fr S w w') (hs : ∀ g, P g -> ¬ S g) : SlX P w' v lv :=
 ⟨h.1.fr hf hs, fun p hp => (h.2 p hp).fr hf hs⟩
def exo (x : Exm) : List Value := [.int .u64 x.ref, .int .i64 x.t, .float .f64 x.v, .string (zau (zaI x.labs))]
theorem info157 : (prog.info? 157).map (fun i => (i.zero, i.size, i.bytes)) = some (some (.agg #[.int .u64 0, .int .i64 0, .float .f64 0, .string ⟨#[]⟩]), 4, 40) := by kernel_rfl
def zfN (w : World) (l : List Exm) (r : Ending) (w' : World) : Prop :=
 ∃ v, r = .returned v /\ w'.ownsRow w.heap.size 157 4 v l.length (l.flatMap exo) /\ z_F w w'
theorem zdY (P : Nat -> Prop) (v : Value) (lv : List (Exm × Value)) (w : World) (h : SlX P w v lv) (hl : lv.length <= 1099511627776) (aP : ∀ p ∈ lv, LabOk p.1.labs 12 600) :
 Calls prog 78 #[v] w (zfN w (lv.map Prod.fst)) := by
 have mixed : prog.follows .mixedOrders = true := by kernel_rfl
 obtain ⟨⟨A, c, rfl, ai, aQ, hr⟩, hin⟩ := h; obtain ⟨n, hn⟩ := exE lv.length; rw [hn] at hr aQ hl ⊢; have HN := zmh hn; have HR := zmh hr; have HI := zmh hin
 have gz := zmh aP; obtain ⟨i0, aC, az, ay, aB⟩ := info_parts info157; clear hn hr ai hin aP; go_enter func78, ntmps78; go_wp2; go_loopw [2, 7] (fun v i wr => ∃ k : Nat, k <= n /\ i = .int .i64 k /\ Hid (wr.ownsRow w.heap.size 157 4 v k (((lv.map Prod.fst).take k).flatMap exo)) /\ Hid (z_F w wr)) (fun _ i _ => n - (intOf i).toNat)
 case atStart => exact ⟨0, zms _, rfl, zmh (zmv _ _ _ _), zmh (znl _ _)⟩
 case round =>
  obtain ⟨k, hk, rfl, HO, HF⟩ := hrel; by_cases hlt : k < n
  ·obtain ⟨g, off, rfl, _, aa⟩ := HR.out (by omega)
   obtain ⟨x, hx⟩ : ∃ x, lv[k]? = some x := ⟨_, zmj (by rw [HN.out]; exact hlt)⟩; have cc : ∀ j, j < 4 -> ∀ u, (exc x)[j]? = some u -> wr.cell? ⟨g, off + (k * 4 + j), none⟩ = some u := fun j hj u hu => by
    have := aa (k * 4 + j) u (by rw [zdy exc (fun _ => rfl) lv k x hx j hj]; exact hu); rw [HF.out.cell (p := ⟨g, off + (k * 4 + j), none⟩) (zmo w _ this) id]; exact this
   have c0 : wr.cell? ⟨g, off + k * 4, none⟩ = some (.int .u64 x.1.ref) := cc 0 (by omega) _ rfl; have c1 : wr.cell? ⟨g, off + k * 4 + 1, none⟩ = some (.int .i64 x.1.t) := cc 1 (by omega) _ rfl; have c2 : wr.cell? ⟨g, off + k * 4 + 2, none⟩ = some (.int .u64 x.1.v) := cc 2 (by omega) _ rfl; have c3 : wr.cell? ⟨g, off + k * 4 + 3, none⟩ = some x.2 := cc 3 (by omega) _ rfl
   have aF := zmp hx; have aY := HI.out x aF; have bF := gz.out x aF; have dI : (lv.map Prod.fst)[k]? = some x.1 := by rw [zmR, hx]; rfl
   obtain ⟨⟨ref, t, vv, labs⟩, iv⟩ := x; simp only [] at c0 c1 c2 c3 aY bF dI; have jI : ∃ A m c, iv = .slice A m c := let ⟨A, c, h, _⟩ := aY; ⟨A, _, c, h⟩
   obtain ⟨Ai, mi, ci, rfl⟩ := jI; have HX := zmh dI; obtain ⟨a', n', k', rfl⟩ := zab HO.out; clear aa cc hx aF dI; go_wp2_with fail
   have ch := znm wr 159 #[.int .u64 ref, .int .i64 t, .int .u64 vv, .slice Ai mi ci]; have s0 := ch.cell 0; have s1 := ch.cell 1; have s2 := ch.cell 2; have s3 := ch.cell 3; simp only [zmC, zmA, zmB] at s0 s1 s2 s3; have bD := HF.out.size; have cO := zmh ch
   have hC := made_ok P (.slice Ai mi ci) labs (wr.alloc (.cells #[.int .u64 ref, .int .i64 t, .int .u64 vv, .slice Ai mi ci] 159)).drew (aY.fr (HF.out.alloc _).drew z_i) bF; obtain ⟨st, bg⟩ := exE (zau (zaI labs)); rw [bg] at hC; have jk := zmh bg; clear ch aY bg bF
   have mY : (wr.alloc (.cells #[.int .u64 ref, .int .i64 t, .int .u64 vv, .slice Ai mi ci] 159)).drew.heap.size = wr.heap.size + 1 := by simp
   go_region_held3 (fun w' => w'.cell? ⟨wr.heap.size, 0, none⟩ = some (.int .u64 ref) /\ w'.cell? ⟨wr.heap.size, 1, none⟩ = some (.int .i64 t) /\ w'.cell? ⟨wr.heap.size, 2, none⟩ = some (.int .u64 vv) /\ w'.cell? ⟨wr.heap.size, 3, none⟩ = some (.slice Ai mi ci))
    ((first | (go_split_ands; refine ⟨?_, ?_, ?_, ?_⟩ <;> first | exact ef.out.cell 0 | exact ef.out.cell 1 | exact ef.out.cell 2 | exact ef.out.cell 3) | (go_split_ands; refine ⟨?_, ?_, ?_, ?_⟩ <;> first | exact (cC.out.alloc _).cell 0 | exact (cC.out.alloc _).cell 1 | exact (cC.out.alloc _).cell 2 | exact (cC.out.alloc _).cell 3) | (go_split_ands; refine ⟨?_, ?_, ?_, ?_⟩ <;> first | exact cC.out.cell 0 | exact cC.out.cell 1 | exact cC.out.cell 2 | exact cC.out.cell 3) | go_keep))
    ((first
      | (go_at_call 167; refine (ze1 _ _).mono ?_; rintro r w' ⟨rfl, rfl⟩)
      | (go_at_call 54; refine hC.mono ?_; rintro r5 w5 ⟨rfl, ap⟩; have cC := zmh (cO.out.drew.fr ap id); have F5 := zmh (((znl (fun _ => False) wr).alloc (.cells #[.int .u64 ref, .int .i64 t, .int .u64 vv, .slice Ai mi ci] 159)).drew.same ap); have O5 := zmh (zai HO.out F5.out z_i); have lZ := F5.out.size)
      | (refine zat _ (by rfl) _ _ 152 152 (by rfl) w.heap.size 157 i0 _ 4 40 underlying152 aC az ay aB rfl (by decide) (.slice a' n' k') k (((lv.map Prod.fst).take k).flatMap exo) (by rfl) (O5.out.alloc _) _ 1 [.int .u64 ref, .int .i64 t, .float .f64 vv, .string st] (by rfl) (zaF underlying152 (znm w5 157 #[.int .u64 ref, .int .i64 t, .float .f64 vv, .string st]) rfl (by simp [Value.oneCell'])) (by unfold maxLen; omega) (by omega) (by simp; omega) ?_; intro v' w2 ac ad av; have ef := zmh ((cC.out.alloc (.cells #[.int .u64 ref, .int .i64 t, .float .f64 vv, .string st] 157)).grown ad (fun e => zm1 _ (zaq HO.out e.symm))))))
   have NO : Hid (w2.ownsRow w.heap.size 157 4 v' (k + 1) (((lv.map Prod.fst).take (k + 1)).flatMap exo)) := zmh (by
    rw [zam exo _ k _ HX.out]; unfold exo; rw [jk.out]
    exact ac)
   have NF : Hid (z_F w w2) := zmh (((HF.out.same F5.out).alloc _).grown ad (fun g hg => .inr ((HO.out.lt g hg).1))); clear ac ad av c0 c1 c2 c3 s0 s1 s2 s3 hC ap ef O5; go_wp2; go_roundw
   case rel => exact ⟨k + 1, by omega, by go_num, NO, NF⟩
   case measure => simp [intOf]; omega
  ·go_wp2
   go_ret; obtain rfl : k = n := by omega
   have h := HO.out; have e : (lv.map Prod.fst).take k = lv.map Prod.fst := zmq (by rw [zmF, HN.out]; exact zmt _); rw [e] at h; refine ⟨_, rfl, ?_, HF.out⟩; rw [zmF, HN.out]; exact h
theorem labs_len (l : List Lab) : l.length <= zaC l := by
 induction l with
 | nil => simp
 | cons x l ih =>
   show l.length + 1 <= za6 x + zaC l; have : 1 <= za6 x := by unfold za6 zaB; split <;> omega
   omega
theorem len_any (l : List Lab) (w : World) (hs : ∀ p ∈ l, p.1.size < 16777216 /\ p.2.size < 16777216) (bD : zaC l <= 1099511627776) :
 Calls prog 55 #[.agg #[.string (zau l)]] w fun r w' => r = .returned (.int .i64 l.length) /\ z_F w w' := by
 have nk : (zau l).size <= 1099511627776 := by rw [zeF]; exact bD
 have dh := labs_len l; have nD : (zau l).data.toList.drop 0 = zay (l.drop 0) := by simp [zau]
 have F1 : z_F w (w.alloc (.cells #[.string (zau l)] 99)) := (znl _ w).alloc _; have B1 : Blk (w.alloc (.cells #[.string (zau l)] 99)) w.heap.size 99 #[.string (zau l)] := znm w 99 _; generalize hS : zau l = s at *
 have HS := zmh hs; have bX := zmh F1; have cE := zmh B1; have jd := zmh nD; clear hs F1 B1 nD hS; go_enter func55, ntmps55; go_wp2
 go_loopw [3, 4] (fun vc vi wr => ∃ (i k : Nat), vc = .int .i64 k /\ vi = .int .i64 i /\ k <= l.length /\ i <= s.size /\ Hid (s.data.toList.drop i = zay (l.drop k)) /\ Hid (z_F w wr) /\ Hid (Blk wr w.heap.size 99 #[.string s])) (fun _ vi _ => s.size - (intOf vi).toNat)
 case atStart => exact ⟨0, 0, rfl, rfl, zms _, zms _, jd, bX, cE⟩
 case round =>
  obtain ⟨i, k, rfl, rfl, hk, hi, HD, HF, HB⟩ := hrel; have c0 : wr.cell? ⟨w.heap.size, 0, none⟩ = some (.string s) := HB.out.cell 0; by_cases hlt : k < l.length
  ·obtain ⟨x, hx⟩ : ∃ x, l[k]? = some x := ⟨_, zmj hlt⟩
   have ej := HS.out x (zmp hx); have hD : s.data.toList.drop i = zbt x.1.size ++ (x.1.data.toList ++ (zbt x.2.size ++ (x.2.data.toList ++ zay (l.drop (k + 1))))) := by
    rw [HD.out, zdp l k x hx]; simp [zcS]
   have q1 := fun W => zdt s i x.1.size _ ej.1 (by omega) hD W; have d1 := zds hD hi; have h2 := zcq hD; have d2 := zds h2 d1; have h3 := zcq h2; have e1 : x.1.data.toList.length = x.1.size := by rw [<- znb]
   rw [zbX] at h3 d2; rw [zbX] at h2; rw [e1] at h3 d2; obtain ⟨i1, gp⟩ := exE (i + zaB x.1.size); rw [gp] at h3 d2; simp only [gp] at q1; have q2 := fun W => zdt s (i1 + x.1.size) x.2.size _ ej.2 (by omega) h3 W; have d3 := zds h3 d2; have h4 := zcq h3; have d4 := zds h4 d3; have h5 := zcq h4
   have e2 : x.2.data.toList.length = x.2.size := by rw [<- znb]
   rw [zbX, e2] at h5 d4; obtain ⟨i3, nz⟩ := exE (i1 + x.1.size + zaB x.2.size); rw [nz] at h5 d4; simp only [nz] at q2; have fP : 0 < zaB x.1.size := by unfold zaB; split <;> omega
   have iD : i < s.size := by omega
   have hgo : i < i3 + x.2.size := by omega
   have H5 := zmh h5; have HX := zmh hx; generalize x.1.size = n1 at *
   generalize x.2.size = n2 at *
   clear hD d1 h2 h3 d3 h4 h5 e1 e2 hx nz gp ej fP; have q2' : ∀ W, Calls prog 150 #[.string s, .int .i64 ((i1 : Int) + n1)] W fun e w' => e = .returned (.tuple #[.int .i64 n2, .int .i64 (i3 : Nat)]) /\ z_F W w' := q2; clear q2
   go_wp2_with (first
    | (go_at_call_of 150 (Value.int .i64 (i : Int)); refine (q1 _).mono ?_; rintro r w1 ⟨rfl, ah⟩; have dg := zmh (HB.out.fr ah id); have c1 := dg.out.cell 0)
    | (go_at_call 150; refine (q2' _).mono ?_; rintro r w2 ⟨rfl, aq⟩; have bH := zmh (dg.out.fr aq id)))
   exact ⟨⟨i3 + n2, k + 1, rfl, rfl, hlt, d4, H5, zmh ((HF.out.same ah).same aq), bH⟩, by show s.size - ((i3 : Int) + n2).toNat < s.size - ((i : Int)).toNat; omega⟩
  ·obtain rfl : k = l.length := by omega
   have hD := HD.out; rw [List.drop_length] at hD; have iH : i = s.size := by
    have h := zm7 List.length hD; rw [List.length_drop, <- znb] at h; simp [zay] at h; omega
   subst iH; have iD : ¬ ((s.size : Int) < s.size) := by omega
   go_wp2; go_ret; exact ⟨rfl, HF.out⟩
theorem zgJ {w w' : World} {e : Nat} {o : Option Nat} {xs : List UInt8} {S : Nat -> Prop} (h : Enc w e o xs) (hf : Fr S w w') (he : ¬ S e) (ho : ∀ k, o = some k -> ¬ S k) : Enc w' e o xs := by
 obtain ⟨v, cs, hb, hs, h0, ab, rfl⟩ := h; exact ⟨v, cs, hb.fr hf he, hs, h0, zai ab hf ho, rfl⟩
theorem zi3 {w : World} {e c : Nat} {o : Option Nat} {xs : List UInt8} {t : TypeId} {cs : Array Value} (h : Enc w e o xs) (hb : Blk w c t cs) (h1 : 5 ≠ t) (h2 : 224 ≠ t) : o ≠ some c /\ e ≠ c := by
 obtain ⟨v, jU, bJ, hs, h0, ab, rfl⟩ := h; exact ⟨zak ab hb h1, znn bJ hb h2⟩
theorem put_fr {w W W' : World} {e : Nat} {o : Option Nat} {xs ys : List UInt8} (h : Put w e o xs ys W) (hf : z_F W W') : Put w e o xs ys W' := by
 obtain ⟨o1, he, ah, ho⟩ := h; exact ⟨o1, zgJ he hf id z_i, ah.trans hf (fun _ _ e => e.elim), ho⟩
theorem zgo {w w' : World} {e b : Nat} {o : Option Nat} {xs ys : List UInt8} {t : TypeId} {cs : Array Value} (h : Put w e o xs ys w') (he : Enc w e o xs) (hb : Blk w b t cs) (h5 : 5 ≠ t) (h4 : 224 ≠ t) : Blk w' b t cs := by
 have nn := zi3 he hb h5 h4; obtain ⟨o2, _, aq, _⟩ := h; exact hb.fr aq (fun e => e.elim (fun e => nn.2 e.symm) (fun e => nn.1 e.symm))
theorem put_from {w0 w w' : World} {e : Nat} {o : Option Nat} {xs ys : List UInt8} (h : Put w e o xs ys w') (hf : z_F w0 w) : Put w0 e o xs ys w' := by
 obtain ⟨o2, he, aq, ho⟩ := h; exact ⟨o2, he, (hf.mono (fun _ _ e => e.elim)).same aq, ho.imp id (fun ⟨k, h, hk⟩ => ⟨k, h, zm0 hf.size hk⟩)⟩
theorem enc1_any (e c : Nat) (o : Option Nat) (xs : List UInt8) (x : Lab) (W : World) (h : Enc W e o xs) (hc : Blk W c 226 #[.pointer (some ⟨e, 0, none⟩)]) (hl : xs.length <= 274877906944) (h1 : x.1.size <= 1048576) (h2 : x.2.size <= 1048576) :
 Calls prog 201 #[.agg #[.string x.1, .string x.2], .pointer (some ⟨c, 0, none⟩)] W fun r w' => r = .returned (.tuple #[]) /\ Put W e o xs (zbL x) w' /\ (∀ b t cs, Blk W b t cs -> 5 ≠ t -> 224 ≠ t -> Blk w' b t cs) := by
 obtain ⟨a, b⟩ := x; dsimp only at h1 h2; obtain ⟨W1, io⟩ := exE (W.alloc (.cells #[.string a, .string b] 108)); have F1 : z_F W W1 := by rw [<- io]; exact (znl _ W).alloc _
 have ax : Blk W1 W.heap.size 108 #[.string a, .string b] := by rw [<- io]; exact znm W 108 _
 have eF := zgJ h F1 id z_i; have oR := zb1 e o xs a W1 eF (by omega) (by omega); have bP := hc.fr F1 id; have k0 := bP.cell 0; have k1 := ax.cell 0; simp at k0 k1; have px : ∀ b t cs, Blk W b t cs -> 5 ≠ t -> 224 ≠ t -> Blk W1 b t cs := fun b t cs hb _ _ => hb.fr F1 id; have K1 := zmh px; have bX := zmh F1
 have ke := zmh eF; have HC1 := zmh bP; have cE := zmh ax; clear px F1 eF bP ax h hc; have bh : (zaN a).length <= 1048586 := by
  have := zmx (x := a.size) (by omega); have e : a.data.toList.length = a.size := by rw [<- znb]
  rw [zaN, zmi, e]; omega
 go_enter func201, ntmps201
 go_wp2_with (first
  | (go_at_call_of 187 (Value.string a); refine oR.mono ?_; rintro r w1 ⟨rfl, hp1⟩; refine Hid.out ?_))
 obtain ⟨o1, hE2, ah, dK⟩ := hp1; have nn1 := zi3 ke.out HC1.out (by decide) (by decide); have nn2 := zi3 ke.out cE.out (by decide) (by decide); have iM := HC1.out.fr ah (fun e => e.elim (fun e => nn1.2 e.symm) (fun e => nn1.1 e.symm)); have bn := cE.out.fr ah (fun e => e.elim (fun e => nn2.2 e.symm) (fun e => nn2.1 e.symm))
 have qz := zb1 e o1 (xs ++ zaN a) b w1 hE2 (by rw [zmi]; omega) (by omega); have k2 := iM.cell 0; have k3 := bn.cell 1; simp at k2 k3; have jq := bX.out.size
 have jk : Hid (∀ w2, Put w1 e o1 (xs ++ zaN a) (zaN b) w2 -> Put W e o xs (zaN a ++ zaN b) w2) := zmh (fun w2 h2 => Put.step hE2 ((bX.out.mono (fun _ _ e => e.elim)).same ah) (dK.imp id (fun ⟨k, h, hk⟩ => ⟨k, h, zm0 jq hk⟩)) h2)
 have lN : Hid (∀ b t cs, Blk W b t cs -> 5 ≠ t -> 224 ≠ t -> Blk w1 b t cs) := zmh (fun b t cs hb h5 h4 => by
  have hb1 := K1.out b t cs hb h5 h4; have nn := zi3 ke.out hb1 h5 h4
  exact hb1.fr ah (fun e => e.elim (fun e => nn.2 e.symm) (fun e => nn.1 e.symm)))
 have dk := zmh hE2; clear hE2 ah dK nn1 nn2 iM bn k0 k1 oR; refine zmh ?_
 go_wp2_with (first
  | (go_at_call_of 187 (Value.string b); refine qz.mono ?_; rintro r w2 ⟨rfl, aX⟩))
 go_end0; refine ⟨rfl, jk.out _ aX, fun b t cs hb h5 h4 => ?_⟩; have hb1 := lN.out b t cs hb h5 h4; have nn := zi3 dk.out hb1 h5 h4; obtain ⟨o2, _, aq, _⟩ := aX; exact hb1.fr aq (fun e => e.elim (fun e => nn.2 e.symm) (fun e => nn.1 e.symm))
theorem zlS (x : Lab) (h1 : x.1.size <= 1048576) (h2 : x.2.size <= 1048576) : (zbL x).length <= 2097172 := by
 have l1 := zmx (x := x.1.size) (by omega); have l2 := zmx (x := x.2.size) (by omega); have e1 : x.1.data.toList.length = x.1.size := by rw [<- znb]
 have e2 : x.2.data.toList.length = x.2.size := by rw [<- znb]
 simp only [zbL, zaN, zmi, e1, e2]; omega
theorem fm_succ (l : List Lab) (k : Nat) (x : Lab) (hx : l[k]? = some x) : (l.take (k + 1)).flatMap zbL = (l.take k).flatMap zbL ++ zbL x := by
 rw [zmS, hx, zmQ]; simp
theorem zgM : ∀ (l : List Lab), (∀ p ∈ l, p.1.size <= 1048576 /\ p.2.size <= 1048576) -> (l.flatMap zbL).length <= l.length * 2097172
 | [], _ => by simp
 | x :: l, h => by
   have h1 := h x (by simp); have := zlS x h1.1 h1.2; have := zgM l (fun p hp => h p (by simp [hp])); rw [zmw, zmi, zmz, Nat.add_mul]; omega
theorem zfu (l : List Lab) (hl : l.length <= 4096) (hs : ∀ p ∈ l, p.1.size <= 1048576 /\ p.2.size <= 1048576) : zaC l <= 1099511627776 := by
 have := zdI l hs; have h : l.length * 2097160 <= 4096 * 2097160 := zmu _ hl; omega
theorem zd2 (e : Nat) (o : Option Nat) (xs : List UInt8) (l : List Lab) (w : World) (h : Enc w e o xs) (bm : xs.length <= 1073741824) (hl : l.length <= 4096) (hs : ∀ p ∈ l, p.1.size <= 1048576 /\ p.2.size <= 1048576) :
 Calls prog 115 #[.pointer (some ⟨e, 0, none⟩), .agg #[.string (zau l)]] w (zbZ w e o xs (zbj l)) := by
 have mf : ∀ p ∈ l, p.1.size < 16777216 /\ p.2.size < 16777216 := fun p hp => by have := hs p hp; omega
 have bD := zfu l hl hs; have eg : ∀ args w, (callFunc 201 args).run prog w = .ok (.enter 201 args) w := enters_of func201 (by kernel_rfl) rfl; have hmf : ∀ (fn : Fn) (first aK : Array Value) (w : World), (Instr.makeFunc fn first aK).run prog w = .ok (.func fn first aK) w := fun _ _ _ _ => rfl; have HE := zmh h; have HS := zmh hs; clear h hs
 have hstr := zeF l; have nL := fun W => len_any l W mf bD; have gT := fun J W => ziJ l 201 #[.pointer (some ⟨w.heap.size, 0, none⟩)] eg J W mf bD; generalize zau l = s at hstr nL gT ⊢; have HRG := zmh gT; clear gT mf; obtain ⟨n, hn⟩ := exE l.length; rw [hn] at nL hl; have HN := zmh hn; clear hn; go_enter func115, ntmps115
 go_wp2_with fail
 have F1 : z_F w ((w.alloc (.cells #[.pointer (some ⟨e, 0, none⟩)] 226)).alloc (.cells #[.string s] 99)) := ((znl _ w).alloc _).alloc _; have ax : Blk ((w.alloc (.cells #[.pointer (some ⟨e, 0, none⟩)] 226)).alloc (.cells #[.string s] 99)) w.heap.size 226 #[.pointer (some ⟨e, 0, none⟩)] := (znm w 226 _).alloc _
 have bn : Blk ((w.alloc (.cells #[.pointer (some ⟨e, 0, none⟩)] 226)).alloc (.cells #[.string s] 99)) (w.heap.size + 1) 99 #[.string s] := zaH w _ 99 _; generalize (w.alloc (.cells #[.pointer (some ⟨e, 0, none⟩)] 226)).alloc (.cells #[.string s] 99) = W1 at F1 ax bn ⊢
 have HC : Hid (∀ W S, Fr S W1 W -> ¬ S w.heap.size -> ¬ S (w.heap.size + 1) -> W.cell? ⟨w.heap.size, 0, none⟩ = some (.pointer (some ⟨e, 0, none⟩)) /\ W.cell? ⟨w.heap.size + 1, 0, none⟩ = some (.string s)) := zmh (fun W S hF h1 h2 => by
  have a1 := (ax.fr hF h1).cell 0; have a2 := (bn.fr hF h2).cell 0; simp at a1 a2
  exact ⟨a1, a2⟩)
 have bX := zmh F1; have cE := zmh ax; have dg := zmh bn; clear F1 ax bn; go_region_held3 (fun w' => w'.cell? ⟨w.heap.size, 0, none⟩ = some (.pointer (some ⟨e, 0, none⟩)) /\ w'.cell? ⟨w.heap.size + 1, 0, none⟩ = some (.string s))
  ((first | exact HC.out _ _ (znl (fun _ => False) W1).drew id id | exact HC.out _ _ ((znl (fun _ => False) W1).drew.same ap) id id | exact hc7.out | go_keep))
  ((first
    | (go_at_call 55; refine (nL _).mono ?_; rintro r5 w5 ⟨rfl, ap⟩)
    | (go_at_call 186; refine (za8 e o xs n (by omega) _ (zgJ (zgJ HE.out bX.out id z_i) ((znl (fun _ => False) W1).drew.same ap) id z_i) (by omega)).mono ?_; rintro r7 w7 ⟨rfl, pL⟩; have hc7 := zmh (by
        have qH := zgJ (zgJ HE.out bX.out id z_i) ((znl (fun _ => False) W1).drew.same ap) id z_i; have a1 := (zgo pL qH (cE.out.fr ((znl (fun _ => False) W1).drew.same ap) id) (by decide) (by decide)).cell 0
        have a2 := (zgo pL qH (dg.out.fr ((znl (fun _ => False) W1).drew.same ap) id) (by decide) (by decide)).cell 0; simp at a1 a2
        exact ⟨a1, a2⟩ : w7.cell? ⟨w.heap.size, 0, none⟩ = some (.pointer (some ⟨e, 0, none⟩)) /\ w7.cell? ⟨w.heap.size + 1, 0, none⟩ = some (.string s)))))
 have F5 : z_F w w5 := bX.out.same ((znl (fun _ => False) W1).drew.same ap); have qH := zgJ HE.out F5 id z_i; have hB7 := zgo pL qH (cE.out.fr ((znl (fun _ => False) W1).drew.same ap) id) (by decide) (by decide); have hp := put_from pL F5; obtain ⟨c1, c2⟩ := hc7.out
 have hR := HRG.out (fun k W => Put w e o xs (Lib.uvarint n ++ (l.take k).flatMap zbL) W /\ Blk W w.heap.size 226 #[.pointer (some ⟨e, 0, none⟩)]) w7 (fun k W W' h hf => ⟨put_fr h.1 hf, h.2.fr hf id⟩) ⟨by simpa using hp, hB7⟩ (by
  rintro k x W hx ⟨hp, hb⟩ hb9; have ej := HS.out x (zmp hx); obtain ⟨o1, he1, ah, dK⟩ := hp; have ai : (xs ++ (Lib.uvarint n ++ (l.take k).flatMap zbL)).length <= 274877906944 := by
   have l1 := zmx (x := n) (by omega); have l2 := zgM (l.take k) (fun p hp => HS.out p (zne hp)); have l3 : (l.take k).length <= n := by rw [<- HN.out, zm3]; exact Nat.min_le_right _ _
   have l4 : (l.take k).length * 2097172 <= 4096 * 2097172 := zmu _ (by omega); simp only [zmi] at *
   omega
  refine (enc1_any e w.heap.size o1 _ x W he1 hb ai ej.1 ej.2).mono ?_; rintro r w' ⟨rfl, hp', hk⟩; refine ⟨rfl, ⟨?_, hk _ _ _ hb (by decide) (by decide)⟩, hk _ _ _ hb9 (by decide) (by decide)⟩; rw [fm_succ l k x hx, <- zmk]
  exact Put.step he1 ah dK hp')
 clear F5 qH hB7 hp pL ap hc7; go_wp2_with (go_at_call 152; refine hR.mono ?_; rintro r w8 ⟨rfl, hj, _⟩)
 go_end0; refine ⟨rfl, ?_⟩; rw [zmI] at hj; rw [zbj, HN.out]; exact hj
def zhh (s : Ser) : Prop := s.ref < 18446744073709551616 /\ s.labs.length <= 12 /\ (∀ p ∈ s.labs, p.1.size <= 600 /\ p.2.size <= 600) /\ s.labs.Pairwise (fun a b => a.1 ≠ b.1)
def zbT (s : Ser) : List UInt8 := Lib.beBytes 8 s.ref ++ zbj (zaI s.labs)
def zbY (l : List Ser) : List UInt8 := 1 :: l.flatMap zbT
theorem za0 {α : Type} (f : α -> List UInt8) (m : Nat) : ∀ l : List α, (∀ x ∈ l, (f x).length <= m) -> (l.flatMap f).length <= l.length * m
 | [], _ => by simp
 | x :: l, hf => by
   have h1 := za0 f m l (fun y hy => hf y (zng _ hy)); have h2 := hf x (zna ..); rw [zmw, zmi, zmz, Nat.add_mul]; omega
theorem zgK (s : ByteArray) (h : s.size < 18446744073709551616) : (zaN s).length <= 10 + s.size := by
 have := zmx h; rw [zaN, zmi, <- znb]; omega
theorem ze4 (l : List Lab) (hl : l.length <= 12) (hs : ∀ p ∈ l, p.1.size <= 600 /\ p.2.size <= 600) : (zbj l).length <= 14650 := by
 have h0 := zmx (x := l.length) (by omega)
 have h1 := za0 zbL 1220 l (fun p hp => by
  have := hs p hp; have a1 := zgK p.1 (by omega); have a2 := zgK p.2 (by omega)
  rw [zbL, zmi]; omega)
 have h2 : l.length * 1220 <= 12 * 1220 := zmu _ hl; rw [zbj, zmi]; omega
theorem zhD (s : Ser) (h : zhh s) : (zbT s).length <= 20000 := by
 have hp := (zbW ltL zc4 zcx zcw s.labs).2; have := ze4 (zaI s.labs) (by rw [zaZ]; exact h.2.1) (fun p hm => h.2.2.1 p (hp.mem_iff.mp hm)); rw [zbT, zmi, zmr]; omega
theorem zkj (ep : Value) (sv : Value) (P : Nat -> Prop) (v : Value) (xs : List UInt8) (l : List Ser) (w : World) (h : Sl P w sv 2 l.length (l.flatMap sero)) (ab : w.ownsRow 0 5 1 v xs.length (bc xs)) (hl : xs.length <= 536870912)
 (au : l.length <= 12) (aD : ∀ s ∈ l, zhh s) (hP : ∀ g, P g -> g < w.heap.size /\ some g ≠ v.ownBlock) :
 Calls prog 91 #[ep, sv, v] w (zbP w v.ownBlock (xs ++ zbY l)) := by
 obtain ⟨A, c, rfl, ai, aQ, hr⟩ := h; obtain ⟨a', n', k', rfl⟩ := zab ab; obtain ⟨n, hn⟩ := exE l.length; rw [hn] at aQ hr au ⊢; have hE := Enc.made (z := .int .u8 0) ab _ rfl; have hQ := zck w.heap.size _ xs 1 _ hE (by omega); have e2 : ((1 : UInt8).toNat : Int) = 1 := rfl; rw [e2] at hQ; have HN := zmh hn; have HR := zmh hr; have HP := zmh hP; have HE := zmh hE
 clear hE hr e2 hn ai hP; go_enter func91, ntmps91; go_wp2_with (go_at_call 180; refine hQ.mono ?_; rintro r1 w1 ⟨rfl, R⟩; refine Hid.out ?_)
 have cR := zmh R; clear R hQ; refine zmh ?_; go_wp2_with fail
 have cL : Fr (fun k => some k = (Value.slice a' n' k').ownBlock) w (w.alloc (.cells #[.slice a' n' k', .int .u8 0, .int .u8 0, .int .u8 0, .int .u8 0, .int .u8 0, .int .u8 0, .int .u8 0, .int .u8 0, .int .u8 0, .int .u8 0] 224)) := (znl _ w).alloc _; generalize dZ : w.alloc _ = WB at HE cR cL; have hB : w.heap.size < WB.heap.size := by rw [<- dZ]; simp
 clear dZ; have cS := zmh cL; clear cL; go_loopw [15] (fun i wr => ∃ k : Nat, k <= n /\ i = .int .i64 k /\ Put WB w.heap.size (Value.slice a' n' k').ownBlock xs ([1] ++ (l.take k).flatMap zbT) wr) (fun i _ => n - (intOf i).toNat)
 case atStart => exact ⟨0, zms _, rfl, by simpa using cR.out⟩
 case round =>
  obtain ⟨k, hk, rfl, R⟩ := hrel; by_cases hlt : k < n
  ·obtain ⟨g, off, rfl, ga, aa⟩ := HR.out (by omega)
   have hg := HP.out g ga; obtain ⟨x, hx⟩ : ∃ x, l[k]? = some x := ⟨_, zmj (by rw [HN.out]; exact hlt)⟩; have eW := aD x (zmp hx)
   have dM : Fr (fun k => some k = (Value.slice a' n' k').ownBlock) w wr := cS.out.trans R.fr (fun k hk e => by
    rcases e with e | e
    ·omega
    ·exact e)
   have cc : ∀ j, j < 2 -> ∀ u, (sero x)[j]? = some u -> wr.cell? ⟨g, off + (k * 2 + j), none⟩ = some u := fun j hj u hu => by
    have := aa (k * 2 + j) u (by rw [zby sero (fun _ => rfl) l k x hx j hj]; exact hu); rw [dM.cell (p := ⟨g, off + (k * 2 + j), none⟩) hg.1 hg.2]; exact this
   have d0 : wr.cell? ⟨g, off + k * 2, none⟩ = some (.int .u64 x.ref) := cc 0 (by omega) _ rfl; have d1 : wr.cell? ⟨g, off + k * 2 + 1, none⟩ = some (.string (zau (zaI x.labs))) := cc 1 (by omega) _ rfl; have bI : ([(1 : UInt8)] ++ (l.take k).flatMap zbT).length <= 1 + k * 20000 := by
    have h1 := za0 zbT 20000 (l.take k) (fun s hs => zhD s (aD s (zne hs))); have h2 : (l.take k).length <= k := znh _ _; have h3 : (l.take k).length * 20000 <= k * 20000 := zmu _ h2; rw [zmi, zmy]; omega
   have ct : k * 20000 <= 12 * 20000 := zmu _ (by omega); obtain ⟨Y, hY⟩ := exE ([(1 : UInt8)] ++ (l.take k).flatMap zbT); rw [hY] at bI; rw [hY] at R; have HY := zmh hY; have HX := zmh hx; obtain ⟨st, bg⟩ := exE (zau (zaI x.labs)); rw [bg] at d1; have dd := znm wr 127 #[.int .u64 x.ref, .string st]
   have RA := R.alloc (.cells #[.int .u64 x.ref, .string st] 127); have cT := zmh dd; have bV := zmh RA; have kN : Y.length <= 240001 := by omega
   have HW := zmh eW
   have rR := zmh (fun (e : Nat) (o : Option Nat) (zs : List UInt8) (W : World) (h : Enc W e o zs) (hz : zs.length <= 1073741824) => by
    have := zd2 e o zs (zaI x.labs) W h hz (by rw [zaZ]; have := eW.2.1; omega) (fun p hp => by have := eW.2.2.1 p ((zbW ltL zc4 zcx zcw x.labs).2.mem_iff.mp hp); omega); rw [bg] at this
    exact this)
   clear hx dM cc dd aa hY R RA bI ct aD eW bg
   go_wp2_with (first
    | (go_at_call 181; refine (zag bV.out (f := 181) (args := #[.pointer (some ⟨w.heap.size, 0, none⟩), .int .u64 x.ref]) (zs := Lib.beBytes 8 x.ref) (fun o2 he => zcl _ o2 _ _ HW.out.1 _ he (by rw [zmi]; omega))).mono ?_; rintro rA wA ⟨rfl, R1, K1⟩
       have ax := K1.out _ _ _ (by decide) (by decide) cT.out; have p1 := ax.cell 1; have bj := zmh R1; have bd : (Y ++ Lib.beBytes 8 x.ref).length <= 240009 := by rw [zmi, zmr]; omega
       clear R1 K1 ax)
    | (go_at_call 115; refine (zag bj.out (f := 115) (args := #[.pointer (some ⟨w.heap.size, 0, none⟩), .agg #[.string st]]) (zs := zbj (zaI x.labs)) (fun o2 he => rR.out _ o2 _ _ he (by rw [zmi]; omega))).mono ?_; rintro rB wB ⟨rfl, R1, K1⟩
       have bT := zmh R1
       clear R1 K1 bj))
   have RE : Put WB w.heap.size (Value.slice a' n' k').ownBlock xs ([1] ++ (l.take (k + 1)).flatMap zbT) wB := by
    rw [zal zbT l k x HX.out, <- zmk, HY.out]; simpa [zbT, zmk] using bT.out
   have cM := zmh RE; clear RE bT; go_wp2; go_roundw
   case rel => exact ⟨k + 1, by omega, by go_num, cM.out⟩
   case measure => simp [intOf]; omega
  ·obtain rfl : k = n := by omega
   obtain ⟨oZ, dx, dX, fS⟩ := R; have hG := zd4 _ _ _ _ dx; have HEZ := zmh dx; have HZ := zmh dX; clear dx dX; go_wp2_with (go_at_call 116; refine hG.mono ?_; rintro rr w2 ⟨v2, rfl, rfl, af, bd⟩)
   go_ret; refine ⟨v2, rfl, ?_, cS.out.trans HZ.out (fun k hk e => ?_), ?_⟩
   ·have e1 : l.take k = l := zmq (by rw [HN.out]; exact zmt _)
    rw [e1] at af; simpa [zbY] using af
   ·rcases e with e | e
    ·omega
    ·exact e
   ·rw [bd]
    rcases fS with h | ⟨k2, h, cI⟩
    ·exact .inl h
    ·exact .inr ⟨k2, h, by omega⟩
end Go.Proofs.YtbkookiigkckdaaGreatDoor
