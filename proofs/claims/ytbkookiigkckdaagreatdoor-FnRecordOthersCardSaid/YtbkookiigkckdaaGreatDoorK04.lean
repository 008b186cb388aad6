/- Texts of this seat, merged and shortened: DecB, Sd, Ps, Pt, Wb, Mk, Ty, Lb, Rr, H1. -/
import Derived.Test.YtbkookiigkckdaaGreatDoorK01
import Derived.Test.YtbkookiigkckdaaGreatDoorK03
import Derived.Lib.Zigzag
import Derived.Shelf.Bin.PutVarint
import Derived.Laws.MakeOwn
import Derived.Lib.EndianMore
import Derived.BigRegion
import Derived.OrdersHeld
import Derived.StillTail
import Derived.Deep.RegionHeld3
import Derived.RowKit
set_option linter.unusedVariables false
set_option linter.unusedSimpArgs false
set_option maxRecDepth 100000
set_option maxHeartbeats 8000000
namespace Go.Proofs.YtbkookiigkckdaaGreatDoor
open Go.RowKit
theorem zhP : ∀ (l : List UInt8) (i acc : Nat), (Lib.uvarintFrom i acc l).2 ≤ i + l.length
 | [], i, acc => by simp only [Lib.uvarintFrom, List.length_nil]; omega
 | b :: r, i, acc => by
   rw [Lib.uvarintFrom]; have := zhP r (i + 1) (acc + b.toNat % 128 * 2 ^ (7 * i)); simp only [zlp]
   repeat' split
   all_goals first | omega | (simp only []; omega)
theorem zhd (l : List UInt8) : (Lib.uvarintDec l).2 ≤ l.length := by have := zhP l 0 0; rw [Lib.uvarintDec]; omega
def gUv : St → Nat × St
 | some l => if 1 ≤ (Lib.uvarintDec l).2 then ((Lib.uvarintDec l).1, some (l.drop (Lib.uvarintDec l).2.toNat)) else (0, none)
 | none => (0, none)
theorem uv_read {w : World} {g off c n : Nat} {cur : Array Value} {l : List UInt8} (hg : Blk w g 5 cur) (hr : ∀ j u, (bc l)[j]? = some u → cur[off + j]? = some u) (hn : l.length = n) (hl : n ≤ c) (hm : c ≤ 9223372036854775807) :
 Calls Tryz.prog 231 #[.slice (some ⟨g, off, none⟩) n c] w (zj9 w l) :=
 uvAny g off n c w l hn hl hm (fun j b hb => by
  have := hr j (.int .u8 b.toNat) (by rw [zeu, hb]; rfl); rw [hg.cell, this])
theorem zkT (te : TypeId) (pe : Value) (d g : Nat) (cur : Array Value) (st : St) (w : World) (h : Dec te pe w d g cur st) :
 Calls Tryz.prog 171 #[.pointer (some ⟨d, 0, none⟩)] w (zap te pe w d g cur (.int .u64 (gUv st).1) (gUv st).2) := by
 rcases st with _ | l
 ·obtain ⟨rest, h⟩ := h
  have H := zk7 h; obtain ⟨off, c, hb, hg, hl, hm, hr, hE⟩ := h; have hc1 := hb.cell 1; simp at hc1; clear hb hr hg; go_enter Tryz.func171, Tryz.ntmps171; go_wp2; go_ret; exact ⟨rfl, ⟨_, H.out⟩, zlW _ _⟩
 ·have h : DecOk (.iface te pe) w d g cur l .nilIface := h
  have H := zk7 h; obtain ⟨off, c, hb, hg, hl, hm, hr, hE⟩ := h; obtain ⟨n, hn⟩ : ∃ n, l.length = n := ⟨_, rfl⟩; rw [hn] at hb hl; have hc0 := hb.cell 0; have hc1 := hb.cell 1; simp at hc0 hc1; have HB := zk7 hb; have HR := zk7 hr; have HN := zk7 hn; have hP := uv_read (c := c) hg hr hn hl hm.1; have hle := zhd l; have hf0 := hb.frozen 0; have hf1 := hb.frozen 1
  by_cases hk : 1 ≤ (Lib.uvarintDec l).2
  ·obtain ⟨k, hK⟩ : ∃ k : Nat, (Lib.uvarintDec l).2 = k := ⟨(Lib.uvarintDec l).2.toNat, by omega⟩
   have hP' : Calls Tryz.prog 231 #[.slice (some ⟨g, off, none⟩) n c] w fun r w' => r = .returned (.tuple #[.int .u64 (Lib.uvarintDec l).1, .int .i64 k]) ∧ w = w' :=
    hP.mono fun r w' ⟨x, y, h1, h2, h3, _⟩ => ⟨by rw [h1, (h3 hk).1, (h3 hk).2, hK], h2⟩
   have hg2 : gUv (some l) = ((Lib.uvarintDec l).1, some (l.drop k)) := by show (if 1 ≤ (Lib.uvarintDec l).2 then ((Lib.uvarintDec l).1, some (l.drop (Lib.uvarintDec l).2.toNat)) else (0, none)) = _; rw [if_pos hk, hK]; rfl
   rw [hg2]; simp only []; have hkn : k ≤ n := by omega
   have hk1 : (1 : Int) ≤ (k : Int) := by omega
   obtain ⟨off', ho, hoff⟩ := zk0 g off n c k .i64 k rfl hkn; have HO := zk7 ho; have HK := zk7 hK; clear hb hr hg hn ho hP hle hk hg2 hK; generalize (Lib.uvarintDec l).1 = x at hP' ⊢; go_enter Tryz.func171, Tryz.ntmps171; go_wp2_with (go_at_call 231; refine hP'.mono ?_; rintro r w' ⟨rfl, rfl⟩)
   go_ret; exact ⟨rfl, DecOk.cut H.out (zlW _ _) HB.out HR.out HN.out hl ⟨hm.1, HN.out ▸ hm.2⟩ hkn HO.out, Fr.at_ _ _ _ _⟩
  ·have hP' : Calls Tryz.prog 231 #[.slice (some ⟨g, off, none⟩) n c] w fun r w' => ∃ y : Int, r = .returned (.tuple #[.int .u64 0, .int .i64 y]) ∧ y < 1 ∧ w = w' :=
    hP.mono fun r w' ⟨x, y, h1, h2, _, h4⟩ => ⟨y, by rw [h1, (h4 (by omega)).1], (h4 (by omega)).2, h2⟩
   have hg2 : gUv (some l) = (0, none) := by show (if 1 ≤ (Lib.uvarintDec l).2 then ((Lib.uvarintDec l).1, some (l.drop (Lib.uvarintDec l).2.toNat)) else (0, none)) = _; rw [if_neg hk]
   rw [hg2]; simp only []; clear hb hr hg hn hP hle hk hg2; go_enter Tryz.func171, Tryz.ntmps171; go_wp2_with (go_at_call 231; refine hP'.mono ?_; rintro r w' ⟨y, rfl, hy, rfl⟩)
   go_ret; refine ⟨rfl, ⟨l, H.out.move (Fr.at_ _ _ _ _) (off' := off) (c' := c) ?_ (by rw [HN.out]; exact hl) hm HR.out⟩, Fr.at_ _ _ _ _⟩; rw [HN.out]; simpa using HB.out.set_ 1 (Value.iface te pe)
def zaE (st : St) : Int × St := (Lib.unzigzag (gUv st).1, (gUv st).2)
theorem zcO (te : TypeId) (pe : Value) (d g : Nat) (cur : Array Value) (st : St) (w : World) (h : Dec te pe w d g cur st) :
 Calls Tryz.prog 165 #[.pointer (some ⟨d, 0, none⟩)] w (zap te pe w d g cur (.int .i64 (zaE st).1) (zaE st).2) := by
 rcases st with _ | l
 ·obtain ⟨rest, h⟩ := h
  have H := zk7 h; obtain ⟨off, c, hb, hg, hl, hm, hr, hE⟩ := h; have hc1 := hb.cell 1; simp at hc1; clear hb hr hg; go_enter Tryz.func165, Tryz.ntmps165; go_wp2; go_ret; exact ⟨rfl, ⟨_, H.out⟩, zlW _ _⟩
 ·have h : DecOk (.iface te pe) w d g cur l .nilIface := h
  have H := zk7 h; obtain ⟨off, c, hb, hg, hl, hm, hr, hE⟩ := h; obtain ⟨n, hn⟩ : ∃ n, l.length = n := ⟨_, rfl⟩; rw [hn] at hb hl; have hc0 := hb.cell 0; have hc1 := hb.cell 1; simp at hc0 hc1; have HB := zk7 hb; have HR := zk7 hr; have HN := zk7 hn; have hP := uv_read (c := c) hg hr hn hl hm.1; have hle := zhd l; have hf0 := hb.frozen 0; have hf1 := hb.frozen 1
  by_cases hk : 1 ≤ (Lib.uvarintDec l).2
  ·obtain ⟨k, hK⟩ : ∃ k : Nat, (Lib.uvarintDec l).2 = k := ⟨(Lib.uvarintDec l).2.toNat, by omega⟩
   have hP' : Calls Tryz.prog 231 #[.slice (some ⟨g, off, none⟩) n c] w fun r w' => r = .returned (.tuple #[.int .u64 (Lib.uvarintDec l).1, .int .i64 k]) ∧ w = w' :=
    hP.mono fun r w' ⟨x, y, h1, h2, h3, _⟩ => ⟨by rw [h1, (h3 hk).1, (h3 hk).2, hK], h2⟩
   have hg2 : zaE (some l) = (Lib.unzigzag (Lib.uvarintDec l).1, some (l.drop k)) := by
    show (Lib.unzigzag (if 1 ≤ (Lib.uvarintDec l).2 then ((Lib.uvarintDec l).1, some (l.drop (Lib.uvarintDec l).2.toNat)) else (0, none)).1, (if 1 ≤ (Lib.uvarintDec l).2 then ((Lib.uvarintDec l).1, some (l.drop (Lib.uvarintDec l).2.toNat)) else (0, none)).2) = _; rw [if_pos hk, hK]; rfl
   rw [hg2]; simp only []; have hkn : k ≤ n := by omega
   have hk1 : (1 : Int) ≤ (k : Int) := by omega
   obtain ⟨off', ho, hoff⟩ := zk0 g off n c k .i64 k rfl hkn; have HO := zk7 ho; have HK := zk7 hK; have hu := Lib.uvarintDec_lt l; clear hb hr hg hn ho hP hle hk hg2 hK; generalize (Lib.uvarintDec l).1 = u at hP' hu ⊢; have hand := Lib.u64_and1 (u : Int) (by omega) (by omega); by_cases hodd : u % 2 = 0
   ·have hand0 : bits .and .u64 (u : Int) 1 = 0 := by rw [hand]; omega
    have hz : Lib.unzigzag u = (u : Int) / 2 := by simp [Lib.unzigzag, hodd]
    rw [hz]; clear hand hz; go_enter Tryz.func165, Tryz.ntmps165; go_wp2_with (go_at_call 231; refine hP'.mono ?_; rintro r w' ⟨rfl, rfl⟩)
    go_ret; exact ⟨rfl, DecOk.cut H.out (zlW _ _) HB.out HR.out HN.out hl ⟨hm.1, HN.out ▸ hm.2⟩ hkn HO.out, Fr.at_ _ _ _ _⟩
   ·have hand1 : bits .and .u64 (u : Int) 1 = 1 := by rw [hand]; omega
    have hnot : bits .xor .i64 (-1) ((u : Int) / 2) = -((u : Int) / 2) - 1 := by
     have h3 := Lib.i64_not (u / 2) (by omega); rw [show (((u / 2 : Nat) : Int)) = (u : Int) / 2 by omega] at h3; exact h3
    have hz : Lib.unzigzag u = -((u : Int) / 2) - 1 := by simp [Lib.unzigzag, hodd]
    rw [hz]; clear hand hz; go_enter Tryz.func165, Tryz.ntmps165; go_wp2_with (go_at_call 231; refine hP'.mono ?_; rintro r w' ⟨rfl, rfl⟩)
    go_ret; exact ⟨rfl, DecOk.cut H.out (zlW _ _) HB.out HR.out HN.out hl ⟨hm.1, HN.out ▸ hm.2⟩ hkn HO.out, Fr.at_ _ _ _ _⟩
  ·have hP' : Calls Tryz.prog 231 #[.slice (some ⟨g, off, none⟩) n c] w fun r w' => ∃ y : Int, r = .returned (.tuple #[.int .u64 0, .int .i64 y]) ∧ y < 1 ∧ w = w' :=
    hP.mono fun r w' ⟨x, y, h1, h2, _, h4⟩ => ⟨y, by rw [h1, (h4 (by omega)).1], (h4 (by omega)).2, h2⟩
   have hg2 : zaE (some l) = (0, none) := by
    show (Lib.unzigzag (if 1 ≤ (Lib.uvarintDec l).2 then ((Lib.uvarintDec l).1, some (l.drop (Lib.uvarintDec l).2.toNat)) else (0, none)).1, (if 1 ≤ (Lib.uvarintDec l).2 then ((Lib.uvarintDec l).1, some (l.drop (Lib.uvarintDec l).2.toNat)) else (0, none)).2) = _; rw [if_neg hk]; rfl
   rw [hg2]; simp only []; clear hb hr hg hn hP hle hk hg2; go_enter Tryz.func165, Tryz.ntmps165; go_wp2_with (go_at_call 231; refine hP'.mono ?_; rintro r w' ⟨y, rfl, hy, rfl⟩)
   go_ret; refine ⟨rfl, ⟨l, H.out.move (Fr.at_ _ _ _ _) (off' := off) (c' := c) ?_ (by rw [HN.out]; exact hl) hm HR.out⟩, Fr.at_ _ _ _ _⟩; rw [HN.out]; simpa using HB.out.set_ 1 (Value.iface te pe)
def i64 (n : Nat) : Int := wrap64 n
def zaq (st : St) : Int × St := (i64 (zac st).1, (zac st).2)
theorem zhG (te : TypeId) (pe : Value) (d g : Nat) (cur : Array Value) (st : St) (w : World) (h : Dec te pe w d g cur st) :
 Calls Tryz.prog 164 #[.pointer (some ⟨d, 0, none⟩)] w (zap te pe w d g cur (.int .i64 (zaq st).1) (zaq st).2) := by
 have hP := zcA te pe d g cur st w h; have he : zaq st = (i64 (zac st).1, (zac st).2) := rfl; rw [he]; clear h he; obtain ⟨⟨x, st'⟩, hx⟩ : ∃ x, zac st = x := ⟨_, rfl⟩; rw [hx] at hP ⊢; clear hx; simp only [] at hP ⊢; unfold i64; go_enter Tryz.func164, Tryz.ntmps164; go_wp2_with (go_at_call 162; refine hP.mono ?_; rintro r w1 ⟨rfl, hd, hf⟩)
 go_ret; exact ⟨rfl, hd, hf⟩
theorem zbg (te : TypeId) (pe : Value) (d g : Nat) (cur : Array Value) (st : St) (w : World) (h : Dec te pe w d g cur st) :
 Calls Tryz.prog 172 #[.pointer (some ⟨d, 0, none⟩)] w (zap te pe w d g cur (.int .i64 (i64 (gUv st).1)) (gUv st).2) := by
 have hP := zkT te pe d g cur st w h; clear h; obtain ⟨⟨x, st'⟩, hx⟩ : ∃ x, gUv st = x := ⟨_, rfl⟩; rw [hx] at hP ⊢; clear hx; simp only [] at hP ⊢; unfold i64; go_enter Tryz.func172, Tryz.ntmps172; go_wp2_with (go_at_call 171; refine hP.mono ?_; rintro r w1 ⟨rfl, hd, hf⟩)
 go_ret; exact ⟨rfl, hd, hf⟩
theorem zdh (te : TypeId) (pe : Value) (d g : Nat) (cur : Array Value) (st : St) (w : World) (h : Dec te pe w d g cur st) :
 Calls Tryz.prog 232 #[.pointer (some ⟨d, 0, none⟩)] w (zap te pe w d g cur (.int .u32 (IntKind.u32.wrap (gUv st).1)) (gUv st).2) := by
 have hP := zkT te pe d g cur st w h; clear h; obtain ⟨⟨x, st'⟩, hx⟩ : ∃ x, gUv st = x := ⟨_, rfl⟩; rw [hx] at hP ⊢; clear hx; simp only [] at hP ⊢; go_enter Tryz.func232, Tryz.ntmps232; go_wp2_with (go_at_call 171; refine hP.mono ?_; rintro r w1 ⟨rfl, hd, hf⟩)
 go_ret; exact ⟨rfl, hd, hf⟩
theorem zdj (te : TypeId) (pe : Value) (d g : Nat) (cur : Array Value) (st : St) (w : World) (h : Dec te pe w d g cur st) :
 Calls Tryz.prog 234 #[.pointer (some ⟨d, 0, none⟩)] w (zap te pe w d g cur (.float .f64 (zac st).1) (zac st).2) := by
 have hP := zcA te pe d g cur st w h; have hr := zgJ; clear h; obtain ⟨⟨x, st'⟩, hx⟩ : ∃ x, zac st = x := ⟨_, rfl⟩; rw [hx] at hP ⊢; clear hx; simp only [] at hP ⊢; go_enter Tryz.func234, Tryz.ntmps234; go_wp2_with (go_at_call 162; refine hP.mono ?_; rintro r w1 ⟨rfl, hd, hf⟩)
 go_ret; exact ⟨rfl, hd, hf⟩
def ziS (te : TypeId) (pe : Value) : St → Value
 | some _ => .nilIface
 | none => .iface te pe
theorem zgh (te : TypeId) (pe : Value) (d g : Nat) (cur : Array Value) (st : St) (w : World) (h : Dec te pe w d g cur st) :
 Calls Tryz.prog 119 #[.pointer (some ⟨d, 0, none⟩)] w fun r w' => r = .returned (ziS te pe st) ∧ w = w' := by
 rcases st with _ | l
 ·obtain ⟨rest, off, c, hb, hg, hl, hm, hr, hE⟩ := h
  have hc1 := hb.cell 1; simp at hc1; clear hb hr hg; go_enter Tryz.func119, Tryz.ntmps119; go_wp2; go_ret; exact ⟨rfl, rfl⟩
 ·obtain ⟨off, c, hb, hg, hl, hm, hr, hE⟩ := h
  have hc1 := hb.cell 1; simp at hc1; clear hb hr hg; go_enter Tryz.func119, Tryz.ntmps119; go_wp2; go_ret; exact ⟨rfl, rfl⟩
def lenEnds (w : World) (st : St) (r : Ending) (w' : World) : Prop := ∃ n : Nat, r = .returned (.int .i64 n) ∧ (∀ l, st = some l → n = l.length) ∧ n ≤ 9223372036854775807 ∧ w = w'
theorem zeV (te : TypeId) (pe : Value) (d g : Nat) (cur : Array Value) (st : St) (w : World) (h : Dec te pe w d g cur st) :
 Calls Tryz.prog 118 #[.pointer (some ⟨d, 0, none⟩)] w (lenEnds w st) := by
 have hx : ∃ (n off c : Nat) (E : Value), Blk w d 229 #[.slice (some ⟨g, off, none⟩) n c, E] ∧ (∀ l, st = some l → n = l.length) ∧ n ≤ 9223372036854775807 := by
  rcases st with _ | l
  ·obtain ⟨rest, off, c, hb, hg, hl, hm, _⟩ := h
   exact ⟨_, _, _, _, hb, (fun _ e => by cases e), by omega⟩
  ·obtain ⟨off, c, hb, hg, hl, hm, _⟩ := h
   exact ⟨_, _, _, _, hb, (fun _ e => by cases e; rfl), by omega⟩
 obtain ⟨n, off, c, E, hb, H1, H2⟩ := hx; have hc0 := hb.cell 0; simp at hc0; have HH := zk7 H1; clear hb h H1; go_enter Tryz.func118, Tryz.ntmps118; go_wp2; go_ret; exact ⟨n, rfl, HH.out, H2, rfl⟩
def zbB (br : Nat) (bt : Int) (st : St) : Smp × St :=
 (⟨u64 (wrap64 (i64 br + (zaE st).1)), wrap64 (bt + (zaE (zaE st).2).1), (zac (zaE (zaE st).2).2).1⟩, (zac (zaE (zaE st).2).2).2)
def zbd (br : Nat) (bt : Int) : Nat → St → List Smp → List Smp × St
 | k + 1, some (c :: r), acc => zbd br bt k (zbB br bt (some (c :: r))).2 (acc ++ [(zbB br bt (some (c :: r))).1])
 | _, st, acc => (acc, st)
theorem smp_cells (br : Nat) (bt : Int) (st : St) : (#[Value.int IntKind.u64 (IntKind.u64.wrap (wrap64 (wrap64 ↑br + (zaE st).fst))), Value.int IntKind.i64 (wrap64 (bt + (zaE (zaE st).snd).fst)), Value.float FloatKind.f64 (zac (zaE (zaE st).snd).snd).fst] : Array Value) = (Smp.b (zbB br bt st).1).toArray := by
 have h : ∀ x : Int, IntKind.u64.wrap x = (u64 x : Int) := fun x => by rw [IntKind.wrap_u64]; unfold u64; omega
 simp only [zbB, Smp.b, h]; rfl
def zal (xs : List UInt8) : Option (List Smp) :=
 match xs with
 | [] => none
 | b :: rest => if b = 2 then (if rest = [] then some [] else
    match zbd (zac (some rest)).1 (zaq (zac (some rest)).2).1 rest.length (zaq (zac (some rest)).2).2 [] with
    | (l, some _) => some l
    | (_, none) => none) else none
theorem zb4 {st : St} {l : List UInt8} (h : (gUv st).2 = some l) : ∃ l0, st = some l0 ∧ l.length < l0.length := by
 rcases st with _ | l0
 ·cases h
 ·refine ⟨l0, rfl, ?_⟩
  unfold gUv at h; simp only [] at h; by_cases hk : 1 ≤ (Lib.uvarintDec l0).2
  ·rw [if_pos hk] at h
   injection h with h; have := zhd l0; rw [← h, List.length_drop]; omega
  ·rw [if_neg hk] at h; cases h
theorem zbC {st : St} {l : List UInt8} (h : (zac st).2 = some l) : ∃ l0, st = some l0 ∧ l.length < l0.length := by
 rcases st with _ | l0
 ·cases h
 ·refine ⟨l0, rfl, ?_⟩
  by_cases hk : 8 ≤ l0.length
  ·rw [zgT hk] at h; injection h with h; rw [← h, List.length_drop]; omega
  ·rw [zf1 (by omega)] at h; cases h
theorem zi4 {br : Nat} {bt : Int} {l0 l : List UInt8} (h : (zbB br bt (some l0)).2 = some l) : l.length < l0.length := by
 obtain ⟨l1, h1, h1'⟩ := zbC h; obtain ⟨l2, h2, h2'⟩ := zb4 (st := (zaE (some l0)).2) h1; obtain ⟨l3, h3, h3'⟩ := zb4 (st := some l0) h2; injection h3 with h3; subst h3; omega
theorem Dec.fr {te : TypeId} {pe : Value} {w w' : World} {d g : Nat} {cur : Array Value} {st : St} {S : Nat → Prop} (h : Dec te pe w d g cur st) (hf : Fr S w w') (hd : ¬ S d) (hg : ¬ S g) (h2 : ¬ S 2) : Dec te pe w' d g cur st := by
 have go : ∀ {rest : List UInt8} {E : Value}, DecOk (.iface te pe) w d g cur rest E → DecOk (.iface te pe) w' d g cur rest E := by
  rintro rest E ⟨off, c, hb, hg', hl, hm, hr, hE⟩; refine ⟨off, c, hb.fr hf hd, hg'.fr hf hg, hl, hm, hr, ?_⟩; rw [hf.cell (p := ⟨2, 0, none⟩) (zle w _ hE) h2]; exact hE
 rcases st with _ | l
 ·obtain ⟨rest, h⟩ := h; exact ⟨rest, go h⟩
 ·exact go h
def zhE (d : Nat) (w : World) : Nat :=
 match w.cell? ⟨d, 1, none⟩, w.cell? ⟨d, 0, none⟩ with
 | some .nilIface, some (.slice _ n _) => n + 1
 | _, _ => 0
theorem zbm {te : TypeId} {pe : Value} {w : World} {d g : Nat} {cur : Array Value} {l : List UInt8} (h : Dec te pe w d g cur (some l)) : zhE d w = l.length + 1 := by
 obtain ⟨off, c, hb, _⟩ := h; have h0 := hb.cell 0; have h1 := hb.cell 1; simp at h0 h1; simp [zhE, h0, h1]
theorem zc5 {te : TypeId} {pe : Value} {w : World} {d g : Nat} {cur : Array Value} (h : Dec te pe w d g cur none) : zhE d w = 0 := by
 obtain ⟨rest, off, c, hb, _⟩ := h; have h0 := hb.cell 0; have h1 := hb.cell 1; simp at h0 h1; simp [zhE, h0, h1]
theorem Dec.open_ {te : TypeId} {pe : Value} {w : World} {d g : Nat} {cur : Array Value} {st : St} (h : Dec te pe w d g cur st) :
 ∃ (n : Nat) (off c : Nat), w.cell? ⟨d, 0, none⟩ = some (.slice (some ⟨g, off, none⟩) n c) ∧ w.cell? ⟨d, 1, none⟩ = some (ziS te pe st) ∧ (∀ l, st = some l → n = l.length) ∧ n ≤ 1099511627776 ∧ d < w.heap.size ∧ g < w.heap.size ∧ 2 < w.heap.size := by
 have key : ∀ {rest : List UInt8} {E : Value}, DecOk (.iface te pe) w d g cur rest E → ∃ off c : Nat, w.cell? ⟨d, 0, none⟩ = some (.slice (some ⟨g, off, none⟩) rest.length c) ∧ w.cell? ⟨d, 1, none⟩ = some E ∧ rest.length ≤ 1099511627776 ∧ d < w.heap.size ∧ g < w.heap.size ∧ 2 < w.heap.size := by
  rintro rest E ⟨off, c, hb, hg', hl, hm, hr, hE⟩; have h0 := hb.cell 0; have h1 := hb.cell 1; simp at h0 h1; exact ⟨off, c, h0, h1, hm.2, hb.lt, hg'.lt, zle w _ hE⟩
 rcases st with _ | l
 ·obtain ⟨rest, h⟩ := h
  obtain ⟨off, c, h0, h1, h2, h3⟩ := key h; exact ⟨_, off, c, h0, h1, (fun _ e => by cases e), h2, h3⟩
 ·obtain ⟨off, c, h0, h1, h2, h3⟩ := key h
  exact ⟨_, off, c, h0, h1, (fun _ e => by cases e; rfl), h2, h3⟩
def ErrNew (w : World) (r : Ending) (w' : World) : Prop := ∃ t a, r = .returned (.iface t a) ∧ Fr (fun _ => False) w w'
theorem zbL (s : ByteArray) (w : World) : Calls Tryz.prog 161 #[.string s] w (ErrNew w) := by
 go_enter Tryz.func161, Tryz.ntmps161; go_wp2_with fail
 go_ret; exact ⟨_, _, rfl, (zlW _ w).alloc _⟩
theorem zaa {w : World} {base : Nat} {e : TypeId} {size n : Nat} {v : Value} {xs : List Value} (h : w.ownsRow base e size v n xs) : ∃ a c, v = .slice a n c := by
 rcases h.2 with ⟨rfl, rfl⟩ | ⟨g', cap, cur, rfl, _⟩
 ·exact ⟨_, _, rfl⟩
 ·exact ⟨_, _, rfl⟩
def LenEnds2 (w : World) (cur : Array Value) (st : St) (r : Ending) (w' : World) : Prop := ∃ n : Nat, r = .returned (.int .i64 n) ∧ (∀ l, st = some l → n = l.length) ∧ n ≤ 1099511627776 ∧ w = w'
theorem decLen2 (te : TypeId) (pe : Value) (d g : Nat) (cur : Array Value) (st : St) (w : World) (h : Dec te pe w d g cur st) : Calls Tryz.prog 118 #[.pointer (some ⟨d, 0, none⟩)] w (LenEnds2 w cur st) := by
 obtain ⟨n, off, c, hc0, _, H1, H2, _⟩ := h.open_; have HH := zk7 H1; clear h H1; go_enter Tryz.func118, Tryz.ntmps118; go_wp2; go_ret; exact ⟨n, rfl, HH.out, H2, rfl⟩
def Rec (te : TypeId) (pe : Value) (w : World) (g : Nat) (cur : Array Value) (xs : List UInt8) (v : Value) : Prop :=
 ∃ off c, v = .slice (some ⟨g, off, none⟩) xs.length c ∧ Blk w g 5 cur ∧ xs.length ≤ c ∧ (c ≤ 9223372036854775807 ∧ xs.length ≤ 1099511627776) ∧ (∀ j u, (bc xs)[j]? = some u → cur[off + j]? = some u) ∧ w.cell? ⟨2, 0, none⟩ = some (.iface te pe)
theorem Rec.dec {te : TypeId} {pe : Value} {w : World} {g : Nat} {cur : Array Value} {xs : List UInt8} {v : Value} (h : Rec te pe w g cur xs v) : Dec te pe (w.alloc (.cells #[v, .nilIface] 229)) w.heap.size g cur (some xs) := by
 obtain ⟨off, c, rfl, hg, hl, hm, hr, hE⟩ := h; refine ⟨off, c, Blk.new w 229 _, hg.alloc _, hl, hm, hr, ?_⟩; rw [((zlW (fun _ => False) w).alloc _).cell (p := ⟨2, 0, none⟩) (zle w _ hE) (fun e => e)]; exact hE
def zbb (w : World) (base : Nat) (o : Option Nat) (xs : List UInt8) (r : Ending) (w' : World) : Prop :=
 Fr (fun k => some k = o) w w' ∧ match zal xs with
  | some l => ∃ v', r = .returned (.tuple #[v', .nilIface]) ∧ w'.ownsRow base 137 3 v' l.length (l.flatMap Smp.b)
  | none => ∃ t a, r = .returned (.tuple #[.slice none 0 0, .iface t a])
theorem zdS {w w' : World} {base : Nat} {o : Option Nat} {xs : List UInt8} {t : TypeId} {a : Value} (hd : zal xs = none) (hf : Fr (fun k => some k = o) w w') : zbb w base o xs (.returned (.tuple #[.slice none 0 0, .iface t a])) w' := by
 unfold zbb; rw [hd]; exact ⟨hf, _, _, rfl⟩
theorem zfi {w w' : World} {base : Nat} {o : Option Nat} {xs : List UInt8} {l : List Smp} {v : Value} (hd : zal xs = some l) (hf : Fr (fun k => some k = o) w w') (ho : w'.ownsRow base 137 3 v l.length (l.flatMap Smp.b)) : zbb w base o xs (.returned (.tuple #[v, .nilIface])) w' := by
 unfold zbb; rw [hd]; exact ⟨hf, _, rfl, ho⟩
theorem zgd (te : TypeId) (pe : Value) (dv : Value) (g base : Nat) (cur : Array Value) (xs : List UInt8) (v sv : Value) (w : World) (h : Rec te pe w g cur xs v) (hx : (zaB (some xs)).1 ≠ 2) :
 Calls Tryz.prog 71 #[dv, v, sv] w (zbb w base sv.ownBlock xs) := by
 have hd : zal xs = none := by
  rcases xs with _ | ⟨b, r⟩
  ·rfl
  ·have : ¬ b = 2 := by rintro rfl; exact hx rfl
   simp [zal, this]
 unfold zbb; rw [hd]; clear hd; have hD := h.dec; obtain ⟨off, c, rfl, _⟩ := h; have hQ := zbo te pe w.heap.size g cur _ _ hD; have hx2 : ¬ ((zaB (some xs)).1 : Int) = 2 := by omega
 clear hD hx; generalize (zaB (some xs)).1 = x at hQ hx2; generalize (zaB (some xs)).2 = st at hQ; go_enter Tryz.func71, Tryz.ntmps71; go_wp2_with (first | (go_at_call 160; refine hQ.mono ?_; rintro r w1 ⟨rfl, hD1, hf1⟩) | (go_at_call 161; refine (zbL _ _).mono ?_; rintro r w2 ⟨t, a, rfl, hf2⟩))
 go_ret2; refine ⟨?_, _, _, rfl⟩; have f1 := (((zlW (fun k => some k = sv.ownBlock) w).alloc (.cells #[.slice (some ⟨g, off, none⟩) xs.length c, .nilIface] 229)).trans hf1 (fun k hk e => by omega)); exact f1.trans hf2 (fun _ _ e => e.elim)
theorem zfp (te : TypeId) (pe : Value) (dv : Value) (g base : Nat) (cur : Array Value) (v sv : Value) (w : World) (h : Rec te pe w g cur [2] v) (ho : w.ownsRow base 137 3 sv 0 []) (hb : g < base ∧ 2 < base) :
 Calls Tryz.prog 71 #[dv, v, sv] w (zbb w base sv.ownBlock [2]) := by
 have hD := h.dec; obtain ⟨off, c, rfl, _⟩ := h; have hQ := zbo te pe w.heap.size g cur _ _ hD; have e1 : zaB (some [(2 : UInt8)]) = (2, some []) := rfl; rw [e1] at hQ; have HO := zk7 ho; obtain ⟨a', n', k', rfl⟩ := zae ho; clear hD e1 ho; go_enter Tryz.func71, Tryz.ntmps71
 go_wp2_with (first | (go_at_call 160; refine hQ.mono ?_; rintro r w1 ⟨rfl, hD1, hf1⟩; have hL := zeV te pe _ _ _ _ _ hD1) | (go_at_call 118; refine hL.mono ?_; rintro r w2 ⟨n, rfl, hn, _, rfl⟩; have hn0 := hn _ rfl; subst hn0))
 go_ret2; refine ⟨((zlW _ w).alloc _).trans hf1 (fun k hk e => by omega), _, rfl, ?_⟩; exact zah (HO.out.alloc _) hf1 (fun k hk => by have := zav HO.out hk; omega)
theorem zge (te : TypeId) (pe : Value) (dv : Value) (g base : Nat) (cur : Array Value) (rest : List UInt8) (hne : rest ≠ []) (v sv : Value) (w : World) (h : Rec te pe w g cur (2 :: rest) v) (ho : w.ownsRow base 137 3 sv 0 []) (hb : g < base ∧ 2 < base ∧ base ≤ w.heap.size) :
 Calls Tryz.prog 71 #[dv, v, sv] w (zbb w base sv.ownBlock (2 :: rest)) := by
 obtain ⟨i0, hi0, hz0, hz1, hz2⟩ := info_parts Tryz.info137; have hD := h.dec; obtain ⟨off, c, rfl, _⟩ := h; have hQ := zbo te pe w.heap.size g cur _ _ hD; have e1 : zaB (some (2 :: rest)) = (2, some rest) := rfl; rw [e1] at hQ; have HO := zk7 ho; obtain ⟨a', k', rfl⟩ := zaa ho
 have hms : ∀ (m : Int) (W : World), 0 ≤ m → m ≤ 1099511627776 → (Instr.makeSlice 131 (.int .i64 0) (.int .i64 m)).run Tryz.prog W = .ok (.slice (some ⟨W.heap.size, 0, none⟩) 0 m.toNat) (W.alloc (.cells (madeCells (Value.agg #[.int .u64 0, .int .i64 0, .float .f64 0]).cells (m.toNat * 3)) 137)) := fun m W h0 h1 => by
  have h := run_make (P := Tryz.prog) W 131 137 i0 _ Tryz.underlying131 hi0 hz0 .i64 .i64 0 m (by omega) (by omega) (by rw [hz2]; omega) (by omega); rw [hz1] at h; exact h
 have hs1 : ∃ b st, zac (some rest) = (b, st) := ⟨_, _, rfl⟩; obtain ⟨bref, st1, hs1⟩ := hs1; obtain ⟨bt, st2, hs2⟩ : ∃ b st, zaq st1 = (b, st) := ⟨_, _, rfl⟩; have hdec : zal (2 :: rest) = match zbd bref bt rest.length st2 [] with | (l, some _) => some l | (_, none) => none := by
  show (if (2 : UInt8) = 2 then (if rest = [] then some [] else match zbd (zac (some rest)).1 (zaq (zac (some rest)).2).1 rest.length (zaq (zac (some rest)).2).2 [] with | (l, some _) => some l | (_, none) => none) else none) = _; rw [if_pos rfl, if_neg hne, hs1, hs2]
 have hst2 : ∀ l, st2 = some l → l.length ≤ rest.length := by
  rintro l rfl; have e2 : (zac st1).2 = some l := by have := congrArg Prod.snd hs2; exact this
  obtain ⟨l1, h1, h1'⟩ := zbC e2; have e3 : (zac (some rest)).2 = some l1 := by rw [hs1]; exact h1
  obtain ⟨l2, h2, h2'⟩ := zbC e3; injection h2 with h2; subst h2; omega
 have hrl : rest.length ≤ 1099511627776 := by
  obtain ⟨n, off', c', _, _, hn, hnc, _⟩ := hD.open_; have := hn _ rfl; simp at this; omega
 have hr0 : 0 < rest.length := List.length_pos_iff.2 hne; have HD2 := zk7 hst2; have HDE := zk7 hdec; clear hD e1 ho hdec hst2 hne; go_enter Tryz.func71, Tryz.ntmps71; go_wp2_with (first
  | (go_at_call 160; refine hQ.mono ?_; rintro r w1 ⟨rfl, hD1, hf1⟩; have hL := zeV te pe _ _ _ _ _ hD1; have hB := zcA te pe _ _ _ _ _ hD1; rw [hs1] at hB)
  | (go_at_call 118; refine hL.mono ?_; rintro r w2 ⟨n, rfl, hn, _, rfl⟩; have hn0 : n = rest.length := hn _ rfl; subst hn0; clear hL)
  | (go_at_call 162; refine hB.mono ?_; rintro r w3 ⟨rfl, hD3, hf3⟩; have hB4 := zhG te pe _ _ _ _ _ hD3; rw [hs2] at hB4)
  | (go_at_call 164; refine hB4.mono ?_; rintro r w4 ⟨rfl, hD4, hf4⟩; refine Hid.out ?_))
 have F4 : Fr (fun k => some k = (Value.slice a' 0 k').ownBlock) w w4 := (((((zlW (fun k => some k = (Value.slice a' 0 k').ownBlock) w).alloc _).trans hf1 (fun k hk e => by omega)).trans hf3 (fun k hk e => by omega)).trans hf4 (fun k hk e => by omega))
 have f14 : Fr (fun k => k = w.heap.size) (w.alloc (.cells #[.slice (some ⟨g, off, none⟩) (2 :: rest).length c, .nilIface] 229)) w4 := (hf1.same hf3).same hf4; have O4 : w4.ownsRow base 137 3 (.slice a' 0 k') 0 [] := zah (HO.out.alloc _) f14 (fun k hk => by have := zav HO.out hk; omega); have hs4 := F4.size
 have hn4 : ∀ k, (Value.slice a' 0 k').ownBlock = some k → k < w.heap.size := fun k hk => zav HO.out hk; have hL2 := decLen2 te pe _ _ _ _ _ hD4; obtain ⟨m4, off4, c4, q0, q1, _, _, hd4, _⟩ := hD4.open_; have HF4 := zk7 F4; have HO4 := zk7 O4; have HD4 := zk7 hD4; have HN4 := zk7 hn4; clear hD1 hf1 hf3 hf4 hD3 hB hB4 hQ F4 f14 O4 hD4 hn4 q0 q1; have hms' := hms; clear hms
 have HMS := zk7 hms'; clear hms'; refine zk7 ?_; go_wp2_with (first
  | (go_at_call 118; refine hL2.mono ?_; rintro r w5 ⟨n5, rfl, hn5, hnb5, rfl⟩; refine Hid.out ?_))
 have hm0 : (0 : Int) ≤ (n5 : Int) / 10 := by omega
 have hm1 : (n5 : Int) / 10 ≤ 1099511627776 := by omega
 have hms5 := HMS.out ((n5 : Int) / 10) w4 hm0 hm1; have hO5 := World.ownsRow_made (base := base) (e := 137) (size := 3) w4 (madeCells #[.int .u64 0, .int .i64 0, .float .f64 0] (n5 / 10 * 3)) (n5 / 10) (by omega) (by unfold maxLen; omega) (size_madeCells _ _)
 have hD5 := HD4.out.fr ((zlW (fun _ => False) w4).alloc (.cells (madeCells #[.int .u64 0, .int .i64 0, .float .f64 0] (n5 / 10 * 3)) 137)) (fun e => e) (fun e => e) (fun e => e); have hF5 := HF4.out.alloc (.cells (madeCells #[.int .u64 0, .int .i64 0, .float .f64 0] (n5 / 10 * 3)) 137); have HO5 := zk7 hO5; have HD5 := zk7 hD5; have HF5 := zk7 hF5; clear hO5 hL2 hD5 hF5
 by_cases hcap : (k' : Int) < (n5 : Int) / 10
 case' pos =>
  refine zk7 ?_; go_wp2_with fail
  have HB5 : Hid (∀ k, (Value.slice (some ⟨w4.heap.size, 0, none⟩) 0 (n5 / 10)).ownBlock = some k → (some k = (Value.slice a' 0 k').ownBlock ∨ w.heap.size < k)) := zk7 fun k hk => .inr (by have hk : w4.heap.size = k := zlV hk; omega); clear hms5 HO4 HD4 HF4 HMS; generalize w4.alloc _ = W5 at HO5 HD5 HF5 ⊢; clear hcap hm0 hm1 hnb5 hn5 hs4
  generalize (Value.slice (some ⟨w4.heap.size, 0, none⟩) 0 (n5 / 10)) = sv5 at HO5 HB5 ⊢; clear hd4
 case' neg =>
  refine zk7 ?_; go_wp2_with fail
  have HB5 : Hid (∀ k, (Value.slice a' 0 k').ownBlock = some k → (some k = (Value.slice a' 0 k').ownBlock ∨ w.heap.size < k)) := zk7 fun k hk => .inl hk.symm; clear hms5 HO5 HD5 HF5 HMS; have HO5 := HO4; have HD5 := HD4; have HF5 := HF4; clear HO4 HD4 HF4 hcap hm0 hm1 hnb5 hn5 hs4 hd4; generalize w4 = W5 at HO5 HD5 HF5 ⊢
 all_goals
  go_loopw [2] (fun sv wr => ∃ (st : St) (acc : List Smp) (j : Nat), Hid (Dec te pe wr w.heap.size g cur st) ∧ Hid (wr.ownsRow base 137 3 sv acc.length (acc.flatMap Smp.b)) ∧ Hid (Fr (fun k => some k = (Value.slice a' 0 k').ownBlock) w wr) ∧ Hid (∀ k, sv.ownBlock = some k → (some k = (Value.slice a' 0 k').ownBlock ∨ w.heap.size < k)) ∧
   Hid (zbd bref bt j st acc = zbd bref bt rest.length st2 []) ∧ Hid (∀ l, st = some l → l.length ≤ j ∧ acc.length + l.length ≤ rest.length) ∧ acc.length ≤ rest.length + 1) (fun _ wr => zhE w.heap.size wr)
  case atStart => exact ⟨st2, [], rest.length, HD5, HO5, HF5, HB5, zk7 rfl, zk7 (fun l hl => ⟨HD2.out l hl, by simpa using HD2.out l hl⟩), by simp⟩
  case round =>
   obtain ⟨st, acc, j, HD, HO, HF, HB, HE, HL, hal⟩ := hrel; obtain ⟨n6, off6, c6, p0, p1, hnl, hnc, hd, hg, h2⟩ := HD.out.open_; have hE := zgh te pe _ _ _ _ _ HD.out; obtain ⟨a6, k6, rfl⟩ := zaa HO.out; rcases st with _ | l
   ·clear hnl p1
    have hres : zbd bref bt rest.length st2 [] = (acc, none) := by rw [← HE.out]; unfold zbd; rcases j with _ | j <;> rfl
    have HR := zk7 (show zal (2 :: rest) = none by rw [HDE.out, hres]); clear hres; simp only [ziS] at hE; rcases zlu n6 with rfl | hn6
    ·go_wp2_with (go_at_call 119; refine hE.mono ?_; rintro r w7 ⟨rfl, rfl⟩)
     go_ret2; exact zdS HR.out HF.out
    ·have hn7 : (0 : Int) < (n6 : Int) := by omega
     go_wp2_with (go_at_call 119; refine hE.mono ?_; rintro r w7 ⟨rfl, rfl⟩)
     go_ret2; exact zdS HR.out HF.out
   ·obtain rfl : n6 = l.length := hnl l rfl
    simp only [ziS] at hE; rcases l with _ | ⟨x, r⟩
    ·have hres : zbd bref bt rest.length st2 [] = (acc, some []) := by rw [← HE.out]; unfold zbd; rcases j with _ | j <;> rfl
     have HR := zk7 (show zal (2 :: rest) = some acc by rw [HDE.out, hres]); clear hres hnl p1; simp only [List.length_nil] at p0; go_wp2_with (go_at_call 119; refine hE.mono ?_; rintro r w7 ⟨rfl, rfl⟩)
     go_ret2; exact zfi HR.out HF.out HO.out
    ·obtain ⟨n7, hn7⟩ : ∃ n7, (x :: r).length = n7 := ⟨_, rfl⟩
     have hn8 : (0 : Int) < (n7 : Int) := by rw [← hn7]; simp
     have hlb := HL.out _ rfl; have hM := zbm HD.out; rw [hn7] at p0 hlb hM; have hV1 := zcO te pe _ _ _ _ _ HD.out; have HN7 := zk7 hn7; clear hnl p1 hn7; go_wp2_with (first
      | (go_at_call 119; refine hE.mono ?_; rintro r w7 ⟨rfl, rfl⟩)
      | (go_at_call 165; refine hV1.mono ?_; rintro r w8 ⟨rfl, hD8, hf8⟩; refine Hid.out ?_))
     have s8 := hf8.size; have D8 := zk7 hD8; have hV2 := zcO te pe _ _ _ _ _ hD8; have F8 := zk7 hf8; clear hD8 hf8 hV1 p0; refine zk7 ?_; go_wp2_with (go_at_call 165; refine hV2.mono ?_; rintro r w9 ⟨rfl, hD9, hf9⟩; refine Hid.out ?_)
     have s9 := hf9.size; have D9 := zk7 hD9; have hV3 := zcA te pe _ _ _ _ _ hD9; have F9 := zk7 hf9; clear hD9 hf9 hV2; refine zk7 ?_; go_wp2_with (go_at_call 162; refine hV3.mono ?_; rintro r wA ⟨rfl, hDA, hfA⟩; refine Hid.out ?_)
     have FA : Fr (fun k => k = w.heap.size) wr wA := (F8.out.same F9.out).same hfA; have sA := FA.size; have DA := zk7 hDA; have HFA := zk7 FA; have OA : wA.ownsRow base 137 3 (.slice a6 acc.length k6) acc.length (acc.flatMap Smp.b) := zah HO.out FA (fun k hk e => by
      rcases HB.out k hk with h | h
      ·have := HN4.out k h.symm; omega
      ·omega)
     have HOA := zk7 OA; have r6 := zgJ; clear hDA hfA hV3 FA OA D8 F8 D9 F9; refine zk7 ?_; go_wp2_with (first
      | (at_builtin; refine Hid.out ?_))
     have hcells : (#[Value.int IntKind.u64 (IntKind.u64.wrap (wrap64 (wrap64 ↑bref + (zaE (some (x :: r))).fst))), Value.int IntKind.i64 (wrap64 (bt + (zaE (zaE (some (x :: r))).snd).fst)), Value.float FloatKind.f64 (zac (zaE (zaE (some (x :: r))).snd).snd).fst] : Array Value) = (Smp.b (zbB bref bt (some (x :: r))).1).toArray := smp_cells _ _ _; rw [hcells]
     have hlen7 : ∀ l, (zbB bref bt (some (x :: r))).2 = some l → l.length < n7 := fun l hl => HN7.out ▸ zi4 hl; have hDS : Dec te pe wA w.heap.size g cur (zbB bref bt (some (x :: r))).2 := DA.out
     have HE2 : Hid (∀ j', j = j' + 1 → zbd bref bt j' (zbB bref bt (some (x :: r))).2 (acc ++ [(zbB bref bt (some (x :: r))).1]) = zbd bref bt rest.length st2 []) := zk7 (by rintro j' rfl; exact HE.out); clear hcells DA hE HE; generalize zbB bref bt (some (x :: r)) = S at hDS hlen7 HE2 ⊢; obtain ⟨s1, st9⟩ := S; simp only [] at hDS hlen7 HE2 ⊢; have hDS2 := zk7 hDS
     have hlen8 := zk7 hlen7; clear hDS hlen7; refine zk7 ?_
     refine zad _ rfl _ _ 131 131 rfl base 137 i0 _ 3 24 Tryz.underlying131 hi0 hz0 hz1 hz2 rfl (by decide) (.slice a6 acc.length k6) acc.length (acc.flatMap Smp.b) rfl (HOA.out.alloc _) _ 1 (Smp.b s1) rfl (zaF Tryz.underlying131 (Blk.new wA 137 (Smp.b s1).toArray) rfl (by simp [Smp.b, Value.oneCell'])) (by unfold maxLen; omega) (by omega) (by simp; omega) ?_
     intro v' w2 hown' hgrow hat
     obtain ⟨a9, k9, rfl⟩ := zaa hown'; have hrow : ∀ k, (Value.slice a6 acc.length k6).ownBlock = some k → base ≤ k ∧ k ≠ w.heap.size := fun k hk => ⟨(HOA.out.lt k hk).1, by
      rcases HB.out k hk with h | h
      ·have := HN4.out k h.symm; omega
      ·omega⟩
     have hsG := hgrow.size; simp at hsG; have fG : Fr (fun k => some k = (Value.slice a6 acc.length k6).ownBlock) wA w2 := ((zlW (fun k => some k = (Value.slice a6 acc.length k6).ownBlock) wA).alloc _).grown hgrow (fun k hk => .inl hk.symm)
     have rD : Dec te pe w2 w.heap.size g cur st9 := hDS2.out.fr fG (fun e => (hrow _ e.symm).2 rfl) (fun e => by have := (hrow _ e.symm).1; omega) (fun e => by have := (hrow _ e.symm).1; omega); have rO : w2.ownsRow base 137 3 (.slice a9 (acc.length + 1) k9) (acc ++ [s1]).length ((acc ++ [s1]).flatMap Smp.b) := by simpa using hown'
     have rF : Fr (fun k => some k = (Value.slice a' 0 k').ownBlock) w w2 := (HF.out.trans HFA.out (fun k hk e => by omega)).trans fG (fun k hk e => by
      rcases HB.out k e.symm with h | h
      ·exact h
      ·omega)
     have rB : ∀ k, (Value.slice a9 (acc.length + 1) k9).ownBlock = some k → (some k = (Value.slice a' 0 k').ownBlock ∨ w.heap.size < k) := fun k hk => by
      rcases hat with h | h
      ·exact HB.out k (h ▸ hk)
      ·rw [h] at hk; injection hk with hk; simp at hk; exact .inr (by omega)
     have rM : zhE w.heap.size w2 < n7 + 1 := by
      rcases st9 with _ | l9
      ·rw [zc5 rD]; omega
      ·rw [zbm rD]; have := hlen8.out l9 rfl; omega
     have RD := zk7 rD; have RO := zk7 rO; have RF := zk7 rF; have RB := zk7 rB; clear rD rO rF rB hown' hgrow hat hrow fG; go_wp2; go_roundw
     case rel =>
      obtain ⟨j', rfl⟩ : ∃ j', j = j' + 1 := ⟨j - 1, by have := HN7.out; simp at this; omega⟩; refine ⟨st9, acc ++ [s1], j', RD, RO, RF, RB, zk7 (HE2.out j' rfl), zk7 (fun l hl => ?_), by simp; omega⟩; have := hlen8.out l hl; rw [zk8, zlo]; omega
     case measure => rw [hM]; exact rM
theorem zgB (te : TypeId) (pe : Value) (dv : Value) (g base : Nat) (cur : Array Value) (xs : List UInt8) (v sv : Value) (w : World) (h : Rec te pe w g cur xs v) (ho : w.ownsRow base 137 3 sv 0 []) (hb : g < base ∧ 2 < base ∧ base ≤ w.heap.size) :
 Calls Tryz.prog 71 #[dv, v, sv] w (zbb w base sv.ownBlock xs) := by
 by_cases hx : (zaB (some xs)).1 = 2
 ·rcases xs with _ | ⟨b, rest⟩
  ·exact absurd hx (by decide)
  ·have hb2 : b = 2 := by
    have : b.toNat = (2 : UInt8).toNat := hx; exact UInt8.toNat_inj.1 this
   subst hb2; by_cases hr : rest = []
   ·subst hr; exact zfp te pe dv g base cur v sv w h ho ⟨hb.1, hb.2.1⟩
   ·exact zge te pe dv g base cur rest hr v sv w h ho hb
 ·exact zgd te pe dv g base cur xs v sv w h hx
theorem uvFrom_uv : ∀ (i x acc : Nat) (r : List UInt8), i ≤ 9 → x * 2 ^ (7 * i) < 18446744073709551616 →
 Lib.uvarintFrom i acc (Lib.uvarint x ++ r) = (acc + x * 2 ^ (7 * i), (i : Int) + (Lib.uvarint x).length) := by
 intro i x; induction x using Nat.strongRecOn generalizing i with
 | _ x ih =>
   intro acc r hi hx; rcases zlA x 128 with h | h
   ·rw [Lib.uvarint_small h]
    show Lib.uvarintFrom i acc (x.toUInt8 :: r) = _; have hn : (x.toUInt8).toNat = x := by simp; omega
    rw [Lib.uvarintFrom, if_neg (by omega), if_pos (by omega), hn]; rw [if_neg]
    ·simp
    ·rintro ⟨rfl, h2⟩
     simp at hx; omega
   ·rw [Lib.uvarint_big h]
    show Lib.uvarintFrom i acc ((x % 128 + 128).toUInt8 :: (Lib.uvarint (x / 128) ++ r)) = _; have hn : ((x % 128 + 128).toUInt8).toNat = x % 128 + 128 := by simp; omega
    have hi9 : i < 9 := by
     rcases zlA i 9 with h' | h'
     ·exact h'
     ·obtain rfl : i = 9 := by omega
      simp at hx; omega
    have hp : 2 ^ (7 * (i + 1)) = 128 * 2 ^ (7 * i) := by rw [Nat.mul_add, Nat.pow_add]; simp [Nat.mul_comm]
    have hx2 : (x / 128) * 2 ^ (7 * (i + 1)) ≤ x * 2 ^ (7 * i) := by
     rw [hp, ← Nat.mul_assoc]; exact zlk _ (Nat.div_mul_le_self x 128)
    rw [Lib.uvarintFrom, if_neg (by omega), if_neg (by omega), hn, ih (x / 128) (by omega) (i + 1) _ r (by omega) (by omega)]; have he : x * 2 ^ (7 * i) = x % 128 * 2 ^ (7 * i) + x / 128 * 2 ^ (7 * (i + 1)) := by
     rw [hp, ← Nat.mul_assoc, ← Nat.add_mul]; congr 1; omega
    have e1 : (x % 128 + 128) % 128 = x % 128 := by omega
    rw [e1, he]; simp only [zlp]; refine Prod.ext (by simp only []; omega) (by simp only []; omega)
theorem zer (x : Nat) (hx : x < 18446744073709551616) (r : List UInt8) : gUv (some (Lib.uvarint x ++ r)) = (x, some r) := by
 have h : Lib.uvarintDec (Lib.uvarint x ++ r) = (x, ((Lib.uvarint x).length : Int)) := by
  rw [Lib.uvarintDec, uvFrom_uv 0 x 0 r (by omega) (by simpa using hx)]; simp
 have hp := Lib.uvarint_pos x; unfold gUv; simp only [h]; rw [if_pos (by omega)]; simp
theorem unzz (x : Int) : Lib.unzigzag (Lib.zigzag x) = x := by
 unfold Lib.unzigzag Lib.zigzag; split <;> split <;> omega
theorem zcg (x : Int) (h0 : -9223372036854775808 ≤ x) (h1 : x ≤ 9223372036854775807) (r : List UInt8) : zaE (some (Lib.uvarint (Lib.zigzag x) ++ r)) = (x, some r) := by
 unfold zaE; rw [zer _ (by unfold Lib.zigzag; split <;> omega), unzz]
theorem zaR (v : Nat) (hv : v < 18446744073709551616) (r : List UInt8) : zac (some (Lib.beBytes 8 v ++ r)) = (v, some r) := by
 have h := Lib.beNat_beBytes 8 v (by simpa using hv); have hl := zlh 8 v; generalize Lib.beBytes 8 v = l at h hl ⊢
 match l, hl with
 | [b0, b1, b2, b3, b4, b5, b6, b7], _ => rw [← h]; rfl
theorem zjo (t : Int) (h0 : -9223372036854775808 ≤ t) (h1 : t ≤ 9223372036854775807) : i64 (u64 t) = t := by
 unfold i64 u64 wrap64; omega
theorem ref_back (a b : Nat) (ha : a < 18446744073709551616) : u64 (wrap64 (wrap64 b + wrap64 (wrap64 a - wrap64 b))) = a := by
 have h : wrap64 (wrap64 b + wrap64 (wrap64 a - wrap64 b)) % 18446744073709551616 = (a : Int) := by unfold wrap64; omega
 rw [u64, h]; rfl
theorem zjR (a b : Int) (h0 : -9223372036854775808 ≤ a) (h1 : a ≤ 9223372036854775807) : wrap64 (b + wrap64 (a - b)) = a := by unfold wrap64; omega
theorem zkf {br : Nat} {bt x y : Int} {v : Nat} {s0 s1 s2 s3 : St} (h1 : zaE s0 = (x, s1)) (h2 : zaE s1 = (y, s2)) (h3 : zac s2 = (v, s3)) : zbB br bt s0 = (⟨u64 (wrap64 (i64 br + x)), wrap64 (bt + y), v⟩, s3) := by
 unfold zbB; rw [h1]; show (Smp.mk _ (wrap64 (bt + (zaE s1).1)) (zac (zaE s1).2).1, (zac (zaE s1).2).2) = _; rw [h2]; show (Smp.mk _ _ (zac s2).1, (zac s2).2) = _; rw [h3]
theorem zi5 (f s : Smp) (hf : f.wf) (hs : s.wf) (r : List UInt8) : zbB f.ref f.t (some (zbk f s ++ r)) = (s, some r) := by
 have e0 : zbk f s ++ r = Lib.uvarint (Lib.zigzag (zk6 f s)) ++ (Lib.uvarint (Lib.zigzag (dT f s)) ++ (Lib.beBytes 8 s.v ++ r)) := by simp only [zbk, zla]
 rw [e0, zkf (zcg (zk6 f s) (zaf _).1 (zaf _).2 _) (zcg (dT f s) (zaf _).1 (zaf _).2 _) (zaR _ hs.2.2.2 _)]; show (Smp.mk (u64 (wrap64 (wrap64 f.ref + wrap64 (wrap64 s.ref - wrap64 f.ref)))) (wrap64 (f.t + wrap64 (s.t - f.t))) s.v, some r) = _; rw [ref_back _ _ hs.1, zjR _ _ hs.2.1 hs.2.2.1]
theorem zgY (f s : Smp) : ∃ c r, zbk f s = c :: r := by
 have := Lib.uvarint_pos (Lib.zigzag (zk6 f s)); rcases h : zbk f s with _ | ⟨c, r⟩
 ·have : (zbk f s).length = 0 := by rw [h]; rfl
  unfold zbk at this; simp only [zk8] at this; omega
 ·exact ⟨c, r, rfl⟩
theorem zfJ (f : Smp) (hf : f.wf) : ∀ (l : List Smp) (k : Nat) (acc : List Smp), (∀ s ∈ l, s.wf) → l.length ≤ k → zbd f.ref f.t k (some (l.flatMap (zbk f))) acc = (acc ++ l, some [])
 | [], k, acc, _, _ => by cases k <;> simp [zbd]
 | s :: l, 0, acc, _, h => by simp at h
 | s :: l, k + 1, acc, hw, h => by
   obtain ⟨c, r, e⟩ := zgY f s; have hst := zi5 f s hf (hw s (by simp)) (l.flatMap (zbk f)); rw [zlm]; rw [e] at hst ⊢; show zbd f.ref f.t (k + 1) (some (c :: (r ++ l.flatMap (zbk f)))) acc = _; have hst' : zbB f.ref f.t (some (c :: (r ++ l.flatMap (zbk f)))) = (s, some (l.flatMap (zbk f))) := hst; rw [zbd, hst']; simp only []
   rw [zfJ f hf l k (acc ++ [s]) (fun x hx => hw x (by simp [hx])) (by simpa using h)]; simp
theorem zhx (f : Smp) (l : List Smp) : l.length ≤ (l.flatMap (zbk f)).length := by
 induction l with
 | nil => simp
 | cons s l ih =>
   obtain ⟨c, r, e⟩ := zgY f s; rw [zlm, zk8, e]; simp only [zlp]; omega
theorem dec_enc (l : List Smp) (hl : ∀ s ∈ l, s.wf) : zal (zaD l) = some l := by
 rcases l with _ | ⟨f, r⟩
 ·rfl
 ·have hf := hl f (by simp)
  have hn := zhx f (f :: r); obtain ⟨X, hX⟩ : ∃ X, (f :: r).flatMap (zbk f) = X := ⟨_, rfl⟩; have h1 := zaR f.ref hf.1 (Lib.beBytes 8 (u64 f.t) ++ X); have h2 := zaR (u64 f.t) (zjQ _) X; have hL := zfJ f hf (f :: r) (Lib.beBytes 8 f.ref ++ (Lib.beBytes 8 (u64 f.t) ++ X)).length [] hl (by simp only [zk8]; rw [← hX]; omega); rw [hX] at hL
  have e0 : zaD (f :: r) = 2 :: (Lib.beBytes 8 f.ref ++ (Lib.beBytes 8 (u64 f.t) ++ X)) := by
   rw [← hX]; simp only [zaD, zdx, zla]; rfl
  rw [e0, zal, if_pos rfl, if_neg (by
   intro h; have := congrArg List.length h; simp [zlh] at this)]
  have e3 : zaq (zac (some (Lib.beBytes 8 f.ref ++ (Lib.beBytes 8 (u64 f.t) ++ X)))).2 = (f.t, some X) := by
   rw [h1]; show (i64 (zac (some (Lib.beBytes 8 (u64 f.t) ++ X))).1, (zac (some (Lib.beBytes 8 (u64 f.t) ++ X))).2) = _; rw [h2]; show (i64 (u64 f.t), some X) = _; rw [zjo _ hf.2.1 hf.2.2.1]
  rw [e3, h1]; show (match zbd f.ref f.t _ (some X) [] with | (l, some _) => some l | (_, none) => none) = _; rw [hL]; rfl
def zaj {α : Type} (step : St → α × St) : Nat → St → List α → List α × St
 | k + 1, some (c :: r), acc => zaj step k (step (some (c :: r))).2 (acc ++ [(step (some (c :: r))).1])
 | _, st, acc => (acc, st)
theorem zfS {α : Type} (step : St → α × St) (enc : α → List UInt8) (Q : α → Prop) (hs : ∀ x r, Q x → step (some (enc x ++ r)) = (x, some r)) (hp : ∀ x, ∃ c r, enc x = c :: r) :
 ∀ (l : List α) (k : Nat) (acc : List α), (∀ x ∈ l, Q x) → l.length ≤ k → zaj step k (some (l.flatMap enc)) acc = (acc ++ l, some [])
 | [], k, acc, _, _ => by cases k <;> simp [zaj]
 | x :: l, 0, acc, _, h => by simp at h
 | x :: l, k + 1, acc, hw, h => by
   obtain ⟨c, r, e⟩ := hp x; have hst := hs x (l.flatMap enc) (hw x (by simp)); rw [zlm]; rw [e] at hst ⊢; show zaj step (k + 1) (some (c :: (r ++ l.flatMap enc))) acc = _; have hst' : step (some (c :: (r ++ l.flatMap enc))) = (x, some (l.flatMap enc)) := hst; rw [zaj, hst']; simp only []
   rw [zfS step enc Q hs hp l k (acc ++ [x]) (fun y hy => hw y (by simp [hy])) (by simpa using h)]; simp
def za5 {α : Type} (t : UInt8) (step : St → α × St) (xs : List UInt8) : Option (List α) :=
 match xs with
 | [] => none
 | b :: rest => if b = t then (match zaj step rest.length (some rest) [] with
    | (l, some _) => some l
    | (_, none) => none) else none
theorem flat_pos {α : Type} (enc : α → List UInt8) (hp : ∀ x, ∃ c r, enc x = c :: r) (l : List α) : l.length ≤ (l.flatMap enc).length := by
 induction l with
 | nil => simp
 | cons s l ih =>
   obtain ⟨c, r, e⟩ := hp s; rw [zlm, zk8, e]; simp only [zlp]; omega
theorem zee {α : Type} (t : UInt8) (step : St → α × St) (enc : α → List UInt8) (Q : α → Prop) (hs : ∀ x r, Q x → step (some (enc x ++ r)) = (x, some r)) (hp : ∀ x, ∃ c r, enc x = c :: r) (l : List α) (hl : ∀ x ∈ l, Q x) :
 za5 t step (t :: l.flatMap enc) = some l := by
 rw [za5, if_pos rfl, zfS step enc Q hs hp l _ [] hl (flat_pos enc hp l)]; rfl
structure Mrk where
 ref : Nat
 mm : Nat
def Mrk.wf (s : Mrk) : Prop := s.ref < 18446744073709551616 ∧ s.mm < 18446744073709551616
def zbO (st : St) : Mrk × St := (⟨(zac st).1, (zac (zac st).2).1⟩, (zac (zac st).2).2)
def zcv (s : Mrk) : List UInt8 := Lib.beBytes 8 s.ref ++ Lib.beBytes 8 s.mm
theorem zkP (s : Mrk) : ∃ c r, zcv s = c :: r := by
 rcases h : zcv s with _ | ⟨c, r⟩
 ·have := congrArg List.length h
  simp [zcv, zlh] at this
 ·exact ⟨c, r, rfl⟩
theorem zkj {a b : Nat} {s0 s1 s2 : St} (h1 : zac s0 = (a, s1)) (h2 : zac s1 = (b, s2)) : zbO s0 = (⟨a, b⟩, s2) := by
 unfold zbO; rw [h1]; show (Mrk.mk a (zac s1).1, (zac s1).2) = _; rw [h2]
theorem zji (s : Mrk) (r : List UInt8) (hs : s.wf) : zbO (some (zcv s ++ r)) = (s, some r) := by
 have e0 : zcv s ++ r = Lib.beBytes 8 s.ref ++ (Lib.beBytes 8 s.mm ++ r) := by simp only [zcv, zla]
 rw [e0, zkj (zaR _ hs.1 _) (zaR _ hs.2 _)]
def zbw (l : List Mrk) : List UInt8 := 5 :: l.flatMap zcv
def zaC (xs : List UInt8) : Option (List Mrk) := za5 5 zbO xs
theorem zgC (l : List Mrk) (hl : ∀ s ∈ l, s.wf) : zaC (zbw l) = some l := zee 5 zbO zcv Mrk.wf zji zkP l hl
structure Stn where
 ref : Nat
 lo : Int
 hi : Int
def Stn.wf (s : Stn) : Prop := s.ref < 18446744073709551616 ∧ (-9223372036854775808 ≤ s.lo ∧ s.lo ≤ 9223372036854775807) ∧ (-9223372036854775808 ≤ s.hi ∧ s.hi ≤ 9223372036854775807)
def zbt (st : St) : Stn × St := (⟨(zac st).1, (zaE (zac st).2).1, (zaE (zaE (zac st).2).2).1⟩, (zaE (zaE (zac st).2).2).2)
def zcc (s : Stn) : List UInt8 := Lib.beBytes 8 s.ref ++ (Lib.uvarint (Lib.zigzag s.lo) ++ Lib.uvarint (Lib.zigzag s.hi))
theorem zkN (s : Stn) : ∃ c r, zcc s = c :: r := by
 rcases h : zcc s with _ | ⟨c, r⟩
 ·have := congrArg List.length h
  simp [zcc, zlh] at this
 ·exact ⟨c, r, rfl⟩
theorem zke {a : Nat} {b c : Int} {s0 s1 s2 s3 : St} (h1 : zac s0 = (a, s1)) (h2 : zaE s1 = (b, s2)) (h3 : zaE s2 = (c, s3)) : zbt s0 = (⟨a, b, c⟩, s3) := by
 unfold zbt; rw [h1]; show (Stn.mk a (zaE s1).1 (zaE (zaE s1).2).1, (zaE (zaE s1).2).2) = _; rw [h2]; show (Stn.mk a b (zaE s2).1, (zaE s2).2) = _; rw [h3]
theorem zi2 (s : Stn) (r : List UInt8) (hs : s.wf) : zbt (some (zcc s ++ r)) = (s, some r) := by
 have e0 : zcc s ++ r = Lib.beBytes 8 s.ref ++ (Lib.uvarint (Lib.zigzag s.lo) ++ (Lib.uvarint (Lib.zigzag s.hi) ++ r)) := by simp only [zcc, zla]
 rw [e0, zke (zaR _ hs.1 _) (zcg _ hs.2.1.1 hs.2.1.2 _) (zcg _ hs.2.2.1 hs.2.2.2 _)]
def zjy (l : List Stn) : List UInt8 := 3 :: l.flatMap zcc
def zaG (xs : List UInt8) : Option (List Stn) := za5 3 zbt xs
theorem zhy (l : List Stn) (hl : ∀ s ∈ l, s.wf) : zaG (zjy l) = some l := zee 3 zbt zcc Stn.wf zi2 zkN l hl
theorem zc8 {P : Nat → Prop} {w : World} {v : Value} {size m tx e : Nat} {cs : List Value} (hk : Tryz.prog.underlying tx = some (.slice e)) (h : Sl P w v size m cs) (h1 : ∀ u ∈ cs, u.oneCell' = true) : Src Tryz.prog size tx v m cs w := by
 obtain ⟨A, c, rfl, hl, hc, hr⟩ := h; rcases zlu m with rfl | hm
 ·have : cs = [] := zlz (by simpa using hl)
  subst this; rcases A with _ | a
  ·exact Src.ofNil (e' := e) _ hk c
  ·exact Src.ofSlice (e' := e) _ hk a 0 c [] (by simp) (fun j u hj => by simp at hj) h1
 ·obtain ⟨g, off, rfl, _, hcell⟩ := hr hm
  exact Src.ofSlice (e' := e) _ hk ⟨g, off, none⟩ m c cs hl (fun j u hj => by
   have e1 : (⟨g, off, none⟩ : Addr).add j = ⟨g, off + j, none⟩ := by unfold Addr.add; split <;> simp_all
   rw [e1]; exact hcell j u hj) h1
def zj8 (L : Value → World → Prop) (w : World) (br bl : Nat) (o : Option Nat) (ys : List UInt8) (r : Ending) (w' : World) : Prop :=
 r = .returned (.tuple #[]) ∧ ∃ v' lv, Blk w' br 44 #[v'] ∧ Blk w' bl 52 #[lv] ∧ L lv w' ∧ w'.ownsRow 0 5 1 v' ys.length (bc ys) ∧ Fr (fun k => some k = o ∨ k = br ∨ k = bl) w w' ∧ (v'.ownBlock = o ∨ ∃ k, v'.ownBlock = some k ∧ w.heap.size ≤ k)
def zbK (L : Value → World → Prop) (w : World) (ys : List UInt8) (r : Ending) (w' : World) : Prop :=
 ∃ v' lv, r = .returned (.tuple #[v', lv]) ∧ L lv w' ∧ w'.ownsRow w.heap.size 5 1 v' ys.length (bc ys) ∧ Fr (fun _ => False) w w'
theorem own_up {w : World} {base b : Nat} {e : TypeId} {size n : Nat} {v : Value} {xs : List Value} (h : w.ownsRow b e size v n xs) (hb : ∀ g, v.ownBlock = some g → base ≤ g) : w.ownsRow base e size v n xs :=
 ⟨h.1, h.2.imp id fun ⟨g, cap, cur, h1, h2, h3⟩ => ⟨g, cap, cur, h1, hb g (by rw [h1]; rfl), h3⟩⟩
theorem laid_mk (w : World) (kind bv : Value) (p : Array Value) :
 let W := ((((((w.alloc (.cells #[kind] 3)).alloc (.cells p 54)).alloc (.cells #[bv] 44)).alloc (.cells #[.slice none 0 0] 44)).alloc (.cells #[.slice none 0 0] 52)).alloc (.cells #[] 196)).alloc (.cells #[] 5)
 Blk W w.heap.size 3 #[kind] ∧ Blk W (w.heap.size + 1) 54 p ∧ Blk W (w.heap.size + 2) 44 #[bv] ∧ Blk W (w.heap.size + 3) 44 #[.slice none 0 0] ∧ Blk W (w.heap.size + 4) 52 #[.slice none 0 0] ∧ Fr (fun _ => False) w W ∧ W.heap.size = w.heap.size + 7 ∧ W.ownsRow w.heap.size 5 1 (.slice (some ⟨w.heap.size + 6, 0, none⟩) 0 0) 0 [] := by
 intro W; have e : ∀ (w : World) (o : Obj), (w.alloc o).heap.size = w.heap.size + 1 := fun w o => by simp
 refine ⟨?_, ?_, ?_, ?_, ?_, ?_, ?_, ?_⟩
 ·exact ((((((Blk.new w 3 _).alloc _).alloc _).alloc _).alloc _).alloc _).alloc _
 ·have := (((((Blk.new (w.alloc (.cells #[kind] 3)) 54 p).alloc (.cells #[bv] 44)).alloc (.cells #[.slice none 0 0] 44)).alloc (.cells #[.slice none 0 0] 52)).alloc (.cells #[] 196)).alloc (.cells #[] 5)
  rwa [e] at this
 ·have := ((((Blk.new ((w.alloc (.cells #[kind] 3)).alloc (.cells p 54)) 44 #[bv]).alloc (.cells #[.slice none 0 0] 44)).alloc (.cells #[.slice none 0 0] 52)).alloc (.cells #[] 196)).alloc (.cells #[] 5)
  rwa [e, e] at this
 ·have := (((Blk.new (((w.alloc (.cells #[kind] 3)).alloc (.cells p 54)).alloc (.cells #[bv] 44)) 44 #[.slice none 0 0]).alloc (.cells #[.slice none 0 0] 52)).alloc (.cells #[] 196)).alloc (.cells #[] 5)
  rwa [e, e, e] at this
 ·have := ((Blk.new ((((w.alloc (.cells #[kind] 3)).alloc (.cells p 54)).alloc (.cells #[bv] 44)).alloc (.cells #[.slice none 0 0] 44)) 52 #[.slice none 0 0]).alloc (.cells #[] 196)).alloc (.cells #[] 5)
  rwa [e, e, e, e] at this
 ·exact (((((((zlW _ w).alloc _).alloc _).alloc _).alloc _).alloc _).alloc _).alloc _
 ·simp [W]
 ·have := World.ownsRow_made (base := w.heap.size) (e := 5) (size := 1) ((((((w.alloc (.cells #[kind] 3)).alloc (.cells p 54)).alloc (.cells #[bv] 44)).alloc (.cells #[.slice none 0 0] 44)).alloc (.cells #[.slice none 0 0] 52)).alloc (.cells #[] 196)) #[] 0 (by simp; omega) (zli _) rfl
  simp only [e] at this; exact this
theorem zh2 {g k n c : Nat} (h : g ≠ k) : some g ≠ (Value.slice (some ⟨k, 0, none⟩) n c).ownBlock := fun e => h (zlV e)
def Vars (W W' : World) : Prop := Fr (fun k => ∃ cs, Blk W k 4 cs ∨ Blk W k 44 cs ∨ Blk W k 52 cs) W W'
theorem zaK (kind : Int) (s0 s1 s2 s3 s4 s5 s6 bv : Value) (xs ys : List UInt8) (P : Nat → Prop) (L : Value → World → Prop) (w : World) (hb : Sl P w bv 1 xs.length (bc xs)) (hxl : xs.length ≤ 1073741824)
 (hsl : ∀ s ∈ [s0, s1, s2, s3, s4, s5, s6], ∃ A m c, s = .slice A m c) (hLs : ∀ lv W, L lv W → ∃ A m c, lv = .slice A m c)
 (hL : ∀ lv W W', L lv W → Vars W W' → L lv W')
 (hc : ∀ (bk be bp bb br bl : Nat) (v : Value) (W : World), Blk W bk 3 #[.int .i64 kind] → Blk W bp 54 #[s0, s1, s2, s3, s4, s5, s6] → Blk W bb 44 #[v] → Blk W br 44 #[.slice none 0 0] → Blk W bl 52 #[.slice none 0 0] → W.ownsRow w.heap.size 5 1 v xs.length (bc xs) →
   bb ≠ br → Fr (fun _ => False) w W → Calls Tryz.prog 90 #[.pointer (some ⟨bk, 0, none⟩), .pointer (some ⟨be, 0, none⟩), .pointer (some ⟨bp, 0, none⟩), .pointer (some ⟨bb, 0, none⟩), .pointer (some ⟨br, 0, none⟩), .pointer (some ⟨bl, 0, none⟩)] W (zj8 L W br bl v.ownBlock ys)) :
 Calls Tryz.prog 31 #[.int .i64 kind, .agg #[s0, s1, s2, s3, s4, s5, s6], bv] w (zbK L w ys) := by
 obtain ⟨i0, hi0, hz0, hz1, hz2⟩ := info_parts Tryz.info5; have HB := zk7 hb; have HC := zk7 hc; have HL := zk7 hL; have HLS := zk7 hLs; have hbv : ∃ A m c, bv = .slice A m c := let ⟨A, c, h, _⟩ := hb; ⟨A, _, c, h⟩
 obtain ⟨A, m, c, rfl⟩ := hbv; obtain ⟨A0, m0, c0, rfl⟩ := hsl s0 (by simp); obtain ⟨A1, m1, c1, rfl⟩ := hsl s1 (by simp); obtain ⟨A2, m2, c2, rfl⟩ := hsl s2 (by simp); obtain ⟨A3, m3, c3, rfl⟩ := hsl s3 (by simp); obtain ⟨A4, m4, c4, rfl⟩ := hsl s4 (by simp); obtain ⟨A5, m5, c5, rfl⟩ := hsl s5 (by simp); obtain ⟨A6, m6, c6, rfl⟩ := hsl s6 (by simp); clear hb hc hL hsl hLs
 have hmf : ∀ (fn : Fn) (first cap : Array Value) (w : World), (Instr.makeFunc fn first cap).run Tryz.prog w = .ok (.func fn first cap) w := fun _ _ _ _ => rfl; go_enter Tryz.func31, Tryz.ntmps31; go_wp2_with (at_builtin; refine Hid.out ?_)
 have hM := laid_mk w (.int .i64 kind) (.slice A m c) #[.slice A0 m0 c0, .slice A1 m1 c1, .slice A2 m2 c2, .slice A3 m3 c3, .slice A4 m4 c4, .slice A5 m5 c5, .slice A6 m6 c6]; dsimp only at hM; generalize hW : World.alloc _ (Obj.cells #[] 5) = W at hM ⊢; clear hW; obtain ⟨B3, B4, B5, B6, B7, hF, hS, hO⟩ := hM; have HS := zk7 hS
 have hsrc := zc8 Tryz.underlying44 (HB.out.fr hF (fun _ _ e => e)) (zet xs); refine zad _ rfl _ _ 44 44 rfl w.heap.size 5 i0 (.int .u8 0) 1 1 Tryz.underlying44 hi0 hz0 hz1 hz2 rfl (by decide) _ 0 [] rfl hO _ xs.length (bc xs) rfl hsrc (by unfold maxLen; omega) (by omega) (by omega) ?_; intro v' w2 hown' hgrow hat
 rw [zlC, zlJ] at hown'; obtain ⟨a2, n2, k2, rfl⟩ := zae hown'; have hge : ∀ g, (Value.slice a2 n2 k2).ownBlock = some g → w.heap.size + 6 ≤ g := fun g hg => by
  rcases hat with h | h <;> rw [h] at hg
  ·injection hg with hg; exact Nat.le_of_eq hg
  ·injection hg with hg; omega
 have g3 := B3.grown hgrow (zh2 (by omega)); have g4 := B4.grown hgrow (zh2 (by omega)); have g5 := B5.grown hgrow (zh2 (by omega)); have g6 := B6.grown hgrow (zh2 (by omega)); have g7 := B7.grown hgrow (zh2 (by omega)); have gF := hF.grown hgrow (fun k hk => .inr (by have hk : w.heap.size + 6 = k := zlV hk; omega))
 have q2 : w2.cell? ⟨w.heap.size + 1 + 1, 0, none⟩ = some (.slice A m c) := by simpa using g5.cell 0
 have z2 : w2.frozen? ⟨w.heap.size + 1 + 1, 0, none⟩ = false := g5.frozen 0; obtain ⟨W3, hW3⟩ : ∃ W3, w2.setCell ⟨w.heap.size + 1 + 1, 0, none⟩ (.slice a2 n2 k2) = W3 := ⟨_, rfl⟩; have h3 : Blk W3 w.heap.size 3 #[.int .i64 kind] := hW3 ▸ g3.far (p := ⟨w.heap.size + 1 + 1, 0, none⟩) (by show w.heap.size ≠ w.heap.size + 1 + 1; omega) _
 have h4 : Blk W3 (w.heap.size + 1) 54 #[.slice A0 m0 c0, .slice A1 m1 c1, .slice A2 m2 c2, .slice A3 m3 c3, .slice A4 m4 c4, .slice A5 m5 c5, .slice A6 m6 c6] := hW3 ▸ g4.far (p := ⟨w.heap.size + 1 + 1, 0, none⟩) (by show w.heap.size + 1 ≠ w.heap.size + 1 + 1; omega) _; have h5 : Blk W3 (w.heap.size + 2) 44 #[.slice a2 n2 k2] := hW3 ▸ (by simpa using g5.set_ 0 (.slice a2 n2 k2))
 have h6 : Blk W3 (w.heap.size + 3) 44 #[.slice none 0 0] := hW3 ▸ g6.far (p := ⟨w.heap.size + 1 + 1, 0, none⟩) (by show w.heap.size + 3 ≠ w.heap.size + 1 + 1; omega) _; have h7 : Blk W3 (w.heap.size + 4) 52 #[.slice none 0 0] := hW3 ▸ g7.far (p := ⟨w.heap.size + 1 + 1, 0, none⟩) (by show w.heap.size + 4 ≠ w.heap.size + 1 + 1; omega) _
 have h8 : Fr (fun _ => False) w W3 := hW3 ▸ gF.setCell (p := ⟨w.heap.size + 1 + 1, 0, none⟩) (.inr (by show w.heap.size ≤ w.heap.size + 1 + 1; omega)) _; have h9 : W3.ownsRow w.heap.size 5 1 (.slice a2 n2 k2) xs.length (bc xs) := hW3 ▸ zah hown' (Fr.put_ w2 (w.heap.size + 1 + 1) 0 _) (fun g hg e => by have := hge g hg; omega); have hlt3 := h7.lt
 have hcall := HC.out w.heap.size (w.heap.size + 1 + 1 + 1 + 1 + 1) (w.heap.size + 1) (w.heap.size + 1 + 1) (w.heap.size + 1 + 1 + 1) (w.heap.size + 1 + 1 + 1 + 1) (.slice a2 n2 k2) _ (h3.alloc (.cells #[.bool false] 4)) (h4.alloc _) (h5.alloc _) (h6.alloc _) (h7.alloc _) (h9.alloc _) (by omega) (h8.alloc _)
 have hsafe := safe_ok 90 _ W3 _ (enters_of Tryz.func90 (by kernel_rfl) rfl) (hcall.mono (fun r w' hr => ⟨hr.1, hr.2, by
  obtain ⟨_, v', lv, _, _, _, _, hf, _⟩ := hr; refine (Blk.new W3 4 #[.bool false]).fr hf ?_; rintro (h | h | h)
  ·have := zav h9 h.symm; omega
  ·omega
  ·omega⟩))
 have HW3 := zk7 hW3; clear hW3; refine zk7 ?_; have HH9 := zk7 h9; have HH8 := zk7 h8; have HH7 := zk7 hlt3; have HGE := zk7 hge; clear hcall h3 h4 h5 h6 h7 h8 h9 g3 g4 g5 g6 g7 gF B3 B4 B5 B6 B7 hF hO hsrc hgrow hat hown' HB HC hlt3 hge hS; refine Hid.out ?_; refine .inl ?_
 go_wp2_with (rw [HW3.out]; go_at_call 65; refine hsafe.mono ?_; rintro r w4 ⟨rfl, w5, hq, hb5, rfl⟩; refine Hid.out ?_)
 obtain ⟨v3, lv, q6, q7, qL, qO, qF, qA⟩ := hq; obtain ⟨a3, n3, k3, rfl⟩ := zae qO; obtain ⟨a4, n4, k4, rfl⟩ := HLS.out lv _ qL; have s6 := q6.lt; have s7 := q7.lt; have hn3 := HH7.out
 have r6 : Blk ((w5.setCell ⟨W3.heap.size, 0, none⟩ (.bool true)).setCell ⟨W3.heap.size, 0, none⟩ (.bool true)) _ _ _ := (q6.far (p := ⟨W3.heap.size, 0, none⟩) (by show w.heap.size + 1 + 1 + 1 ≠ W3.heap.size; omega) _).far (p := ⟨W3.heap.size, 0, none⟩) (by show w.heap.size + 1 + 1 + 1 ≠ W3.heap.size; omega) _
 have r7 : Blk ((w5.setCell ⟨W3.heap.size, 0, none⟩ (.bool true)).setCell ⟨W3.heap.size, 0, none⟩ (.bool true)) _ _ _ := (q7.far (p := ⟨W3.heap.size, 0, none⟩) (by show w.heap.size + 1 + 1 + 1 + 1 ≠ W3.heap.size; omega) _).far (p := ⟨W3.heap.size, 0, none⟩) (by show w.heap.size + 1 + 1 + 1 + 1 ≠ W3.heap.size; omega) _
 have v5 : Vars w5 ((w5.setCell ⟨W3.heap.size, 0, none⟩ (.bool true)).setCell ⟨W3.heap.size, 0, none⟩ (.bool true)) :=
  ((zlW _ w5).setCell (p := ⟨W3.heap.size, 0, none⟩) (.inl ⟨_, .inl hb5⟩) _).setCell (p := ⟨W3.heap.size, 0, none⟩) (.inl ⟨_, .inl hb5⟩) _
 have f5 : Fr (fun _ => False) w ((w5.setCell ⟨W3.heap.size, 0, none⟩ (.bool true)).setCell ⟨W3.heap.size, 0, none⟩ (.bool true)) := by
  have hle := HH8.out.size; refine Fr.setCell (Fr.setCell ?_ (p := ⟨W3.heap.size, 0, none⟩) (.inr hle) _) (p := ⟨W3.heap.size, 0, none⟩) (.inr hle) _; refine (HH8.out.alloc (.cells #[.bool false] 4)).trans qF ?_; rintro k hk (h | h | h)
  ·have := HGE.out k h.symm; omega
  ·omega
  ·omega
 have hown6 : ((w5.setCell ⟨W3.heap.size, 0, none⟩ (.bool true)).setCell ⟨W3.heap.size, 0, none⟩ (.bool true)).ownsRow w.heap.size 5 1 (.slice a3 n3 k3) ys.length (bc ys) := by
  refine own_up (zah qO (((zlW (fun k => k = W3.heap.size) w5).setCell (p := ⟨W3.heap.size, 0, none⟩) (.inl rfl) _).setCell (p := ⟨W3.heap.size, 0, none⟩) (.inl rfl) _) (fun g hg e => zak qO hb5 (by decide) (by rw [hg, e]))) ?_; intro g hg; rcases qA with h | ⟨k, h, hk⟩
  ·have := HGE.out g (h ▸ hg); omega
  ·rw [h] at hg; injection hg with hg; simp at hk; omega
 have hL6 := HL.out _ _ _ qL v5; refine zk7 ?_; generalize World.setCell _ _ _ = w6 at r6 r7 v5 f5 hown6 hL6 ⊢; have l6 := r6.cell 0; have l7 := r7.cell 0; have z6 := r6.frozen 0; have z7 := r7.frozen 0; simp at l6 l7; have m6 : Blk (w6.setCell ⟨w.heap.size + 1 + 1 + 1, 0, none⟩ (.slice a3 n3 k3)) (w.heap.size + 1 + 1 + 1) 44 #[.slice a3 n3 k3] := by simpa using r6.set_ 0 (.slice a3 n3 k3)
 have m7 : Blk (w6.setCell ⟨w.heap.size + 1 + 1 + 1, 0, none⟩ (.slice a3 n3 k3)) (w.heap.size + 1 + 1 + 1 + 1) 52 #[.slice a4 n4 k4] := r7.far (p := ⟨w.heap.size + 1 + 1 + 1, 0, none⟩) (by show w.heap.size + 1 + 1 + 1 + 1 ≠ w.heap.size + 1 + 1 + 1; omega) _; have j6 := m6.cell 0; have j7 := m7.cell 0
 have m8 : Blk ((w6.setCell ⟨w.heap.size + 1 + 1 + 1, 0, none⟩ (.slice a3 n3 k3)).setCell ⟨w.heap.size + 1 + 1 + 1 + 1, 0, none⟩ (.slice a4 n4 k4)) (w.heap.size + 1 + 1 + 1) 44 #[.slice a3 n3 k3] := m6.far (p := ⟨w.heap.size + 1 + 1 + 1 + 1, 0, none⟩) (by show w.heap.size + 1 + 1 + 1 ≠ w.heap.size + 1 + 1 + 1 + 1; omega) _
 have m9 : Blk ((w6.setCell ⟨w.heap.size + 1 + 1 + 1, 0, none⟩ (.slice a3 n3 k3)).setCell ⟨w.heap.size + 1 + 1 + 1 + 1, 0, none⟩ (.slice a4 n4 k4)) (w.heap.size + 1 + 1 + 1 + 1) 52 #[.slice a4 n4 k4] := by simpa using m7.set_ 0 (.slice a4 n4 k4)
 have j8 := m8.cell 0; have j9 := m9.cell 0; simp at j6 j7 j8 j9; have M8 := zk7 m8; have M9 := zk7 m9; clear m6 m7 m8 m9; have R6 := zk7 r6; have R7 := zk7 r7; have F6 := zk7 f5; have HO6 := zk7 hown6; have HL6 := zk7 hL6; clear hown6 hL6 r6 r7 v5 f5 qL qO qF qA q6 q7 hb5 hsafe q2 z2 HW3 s6 s7 hn3; go_wp2_with fail
 go_region_held3 (fun w' => w'.cell? ⟨w.heap.size + 1 + 1 + 1, 0, none⟩ = some (.slice a3 n3 k3) ∧ w'.cell? ⟨w.heap.size + 1 + 1 + 1 + 1, 0, none⟩ = some (.slice a4 n4 k4))
  ((first | (go_split_ands; refine ⟨?_, ?_⟩ <;> first | exact j6 | exact j7) | (go_split_ands; refine ⟨?_, ?_⟩ <;> first | exact j8 | exact j9) | go_keep)) (fail)
 have HE : Fr (fun _ => False) w ((w6.setCell ⟨w.heap.size + 1 + 1 + 1, 0, none⟩ (.slice a3 n3 k3)).setCell ⟨w.heap.size + 1 + 1 + 1 + 1, 0, none⟩ (.slice a4 n4 k4)) :=
  (F6.out.setCell (p := ⟨w.heap.size + 1 + 1 + 1, 0, none⟩) (.inr (by show w.heap.size ≤ w.heap.size + 1 + 1 + 1; omega)) _).setCell (p := ⟨w.heap.size + 1 + 1 + 1 + 1, 0, none⟩) (.inr (by show w.heap.size ≤ w.heap.size + 1 + 1 + 1 + 1; omega)) _
 have HV : Vars w6 ((w6.setCell ⟨w.heap.size + 1 + 1 + 1, 0, none⟩ (.slice a3 n3 k3)).setCell ⟨w.heap.size + 1 + 1 + 1 + 1, 0, none⟩ (.slice a4 n4 k4)) :=
  ((zlW _ w6).setCell (p := ⟨w.heap.size + 1 + 1 + 1, 0, none⟩) (.inl ⟨_, .inr (.inl R6.out)⟩) _).setCell (p := ⟨w.heap.size + 1 + 1 + 1 + 1, 0, none⟩) (.inl ⟨_, .inr (.inr R7.out)⟩) _
 have hown7 := zah HO6.out (((zlW (fun k => k = w.heap.size + 1 + 1 + 1 ∨ k = w.heap.size + 1 + 1 + 1 + 1) w6).setCell (p := ⟨w.heap.size + 1 + 1 + 1, 0, none⟩) (.inl (.inl rfl)) (.slice a3 n3 k3)).setCell (p := ⟨w.heap.size + 1 + 1 + 1 + 1, 0, none⟩) (.inl (.inr rfl)) (.slice a4 n4 k4)) (by
  rintro g hg (e | e)
  ·exact zak HO6.out R6.out (by decide) (by rw [hg, e])
  ·exact zak HO6.out R7.out (by decide) (by rw [hg, e]))
 have HF := zk7 HE.drew; have HL7 := zk7 (HL.out _ _ _ HL6.out HV.drew); have HO7 := zk7 (World.ownsRow.drew hown7); clear HE HV hown7; go_wp2; simp [Exit.then, bodyPost, results, Tryz.results31, go_sem, j8, j9]; exact ⟨_, _, rfl, HL7.out, HO7.out, HF.out⟩
theorem zc7 {w : World} {br bl : Nat} {v : Value} {n : Nat} {xs : List Value} {ys : List UInt8} {z : Value} (hown : w.ownsRow 0 5 1 v n xs) (hr : Blk w br 44 #[z]) (hl : Blk w bl 52 #[.slice none 0 0]) {r : Ending} {w' : World} (h : zcu w br v.ownBlock ys r w') : zj8 (fun lv _ => lv = .slice none 0 0) w br bl v.ownBlock ys r w' := by
 obtain ⟨rfl, v', hb, ho, hf, ha⟩ := h; refine ⟨rfl, v', _, hb, hl.fr hf ?_, rfl, ho, hf.mono ?_, ha⟩
 ·rintro (e | e)
  ·exact zak hown hl (by decide) e.symm
  ·exact Blk.ne_ hl hr (by decide) e
 ·rintro k _ (e | e)
  ·exact .inl e
  ·exact .inr (.inl e)
theorem zcZ (s0 s1 s2 s3 s4 s5 s6 bv : Value) (xs : List UInt8) (l : List Smp) (P : Nat → Prop) (w : World) (hb : Sl P w bv 1 xs.length (bc xs)) (hxl : xs.length ≤ 1073741824)
 (hsl : ∀ s ∈ [s0, s1, s2, s3, s4, s5, s6], ∃ A m c, s = .slice A m c) (hs : Sl P w s1 3 l.length (l.flatMap Smp.a)) (hll : l.length ≤ 1073741824) (hwf : ∀ s ∈ l, s.wf) :
 Calls Tryz.prog 31 #[.int .i64 2, .agg #[s0, s1, s2, s3, s4, s5, s6], bv] w (zbK (fun lv _ => lv = .slice none 0 0) w (xs ++ zaD l)) := by
 refine zaK 2 s0 s1 s2 s3 s4 s5 s6 bv xs _ P _ w hb hxl hsl (by rintro lv W rfl; exact ⟨_, _, _, rfl⟩) (fun _ _ _ h _ => h) ?_; intro bk be bp bb br bl v W hk hp hb' hr hl hown hbr hF
 exact (zgm bk bp bb br _ _ P s0 s1 s2 s3 s4 s5 s6 v _ xs l W hk hp hb' hr (zai hown (zli _)) (hs.fr hF (fun _ _ e => e)) hxl hll hwf hbr).mono fun r w' h => zc7 (zai hown (zli _)) hr hl h
def Mrk.c (s : Mrk) : List Value := [.int .u64 s.ref, .int .u64 s.mm]
theorem Tryz.info166 : (Tryz.prog.info? 166).map (fun i => (i.zero, i.size, i.bytes)) = some (some (.agg #[.int .u64 0, .int .u64 0]), 2, 16) := by kernel_rfl
theorem Tryz.info168 : (Tryz.prog.info? 168).map (fun i => (i.zero, i.size, i.bytes)) = some (some (.agg #[.int .u64 0, .int .u64 0]), 2, 16) := by kernel_rfl
theorem zci {α : Type} (f : α → List Value) (h3 : ∀ x, (f x).length = 2) : ∀ (l : List α) (k : Nat) (x : α), l[k]? = some x → ∀ j, j < 2 → (l.flatMap f)[k * 2 + j]? = (f x)[j]?
 | [], k, x, h, j, hj => by simp at h
 | y :: l, 0, x, h, j, hj => by
   simp at h; subst h; rw [zlm, zlT (by rw [h3]; omega)]; simp
 | y :: l, k + 1, x, h, j, hj => by
   rw [zlm, zlU (by rw [h3]; omega), h3, show (k + 1) * 2 + j - 2 = k * 2 + j by omega]; exact zci f h3 l k x (by simpa using h) j hj
def zgG (w : World) (l : List Mrk) (r : Ending) (w' : World) : Prop :=
 ∃ v, r = .returned v ∧ w'.ownsRow w.heap.size 166 2 v l.length (l.flatMap Mrk.c) ∧ Fr (fun _ => False) w w'
theorem zel (P : Nat → Prop) (v : Value) (l : List Mrk) (w : World) (h : Sl P w v 2 l.length (l.flatMap Mrk.c)) (hl : l.length ≤ 1099511627776) :
 Calls Tryz.prog 80 #[v] w (zgG w l) := by
 obtain ⟨A, c, rfl, hlen, hnc, hr⟩ := h; obtain ⟨n, hn⟩ : ∃ n, l.length = n := ⟨_, rfl⟩; rw [hn] at hr hnc hl ⊢; have HN := zk7 hn; have HR := zk7 hr; obtain ⟨i0, hi0, hz0, hz1, hz2⟩ := info_parts Tryz.info166; clear hn hr hlen; go_enter Tryz.func80, Tryz.ntmps80; go_wp2
 go_loopw [2, 7] (fun v i wr => ∃ k : Nat, k ≤ n ∧ i = .int .i64 k ∧ wr.ownsRow w.heap.size 166 2 v k ((l.take k).flatMap Mrk.c) ∧ Fr (fun _ => False) w wr) (fun _ i _ => n - (intOf i).toNat)
 case atStart => exact ⟨0, zli _, rfl, zll _ _ _ _, zlW _ _⟩
 case round =>
  obtain ⟨k, hk, rfl, hown, hf⟩ := hrel; by_cases hlt : k < n
  ·obtain ⟨g, off, rfl, _, hcell⟩ := HR.out (by omega)
   obtain ⟨x, hx⟩ : ∃ x, l[k]? = some x := ⟨_, zk9 (by rw [HN.out]; exact hlt)⟩; have cc : ∀ j, j < 2 → ∀ u, (Mrk.c x)[j]? = some u → wr.cell? ⟨g, off + (k * 2 + j), none⟩ = some u := fun j hj u hu => by
    have := hcell (k * 2 + j) u (by rw [zci Mrk.c (fun _ => rfl) l k x hx j hj]; exact hu); rw [hf.cell (p := ⟨g, off + (k * 2 + j), none⟩) (zle w _ this) (fun e => e)]; exact this
   have c0 : wr.cell? ⟨g, off + k * 2, none⟩ = some (.int .u64 x.ref) := cc 0 (by omega) _ rfl; have c1 : wr.cell? ⟨g, off + k * 2 + 1, none⟩ = some (.int .u64 x.mm) := cc 1 (by omega) _ rfl; have HC := zk7 hcell; have HO := zk7 hown; have HX := zk7 hx; obtain ⟨a', n', k', rfl⟩ := zae hown; clear hcell cc hown hx; go_wp2_with (at_builtin; refine Hid.out ?_)
   refine zk7 ?_
   refine zad _ rfl _ _ 160 160 rfl w.heap.size 166 i0 _ 2 16 Tryz.underlying160 hi0 hz0 hz1 hz2 rfl (by decide) _ k ((l.take k).flatMap Mrk.c) rfl ((HO.out.alloc _).alloc _) _ 1 (Mrk.c x) rfl (zaF Tryz.underlying160 (za6 wr _ 166 (Mrk.c x).toArray) rfl (by simp [Mrk.c, Value.oneCell'])) (by unfold maxLen; omega) (by omega) (by first | omega | (simp; omega) | (have := hf.size; simp; omega)) ?_
   intro v' w2 hown' hgrow hat
   have hown2 : w2.ownsRow w.heap.size 166 2 v' (k + 1) ((l.take (k + 1)).flatMap Mrk.c) := by rw [zao Mrk.c l k x HX.out]; exact hown'
   have hf2 : Fr (fun _ => False) w w2 := ((hf.alloc _).alloc _).grown hgrow (fun g hg => .inr (((HO.out.lt g hg)).1)); have HO2 := zk7 hown2; have HF2 := zk7 hf2; clear hown' hgrow hown2 hf2 hf c0 c1 hat
   go_wp2; go_roundw
   case rel => exact ⟨k + 1, by omega, by go_num, HO2.out, HF2.out⟩
   case measure => simp [intOf]; omega
  ·go_wp2
   go_ret; obtain rfl : k = n := by omega
   refine ⟨_, rfl, ?_, hf⟩; rw [← HN.out] at hown ⊢; rw [zly] at hown; exact hown
theorem zg4 (s : Mrk) : (zcv s).length = 16 := by simp [zcv, zlh]
theorem zgx (ep : Value) (sv : Value) (P : Nat → Prop) (v : Value) (xs : List UInt8) (l : List Mrk) (w : World) (h : Sl P w sv 2 l.length (l.flatMap Mrk.c)) (hown : w.ownsRow 0 5 1 v xs.length (bc xs)) (hl : xs.length ≤ 1073741824)
 (hsl : l.length ≤ 1073741824) (hwf : ∀ s ∈ l, s.wf) (hP : ∀ g, P g → g < w.heap.size ∧ some g ≠ v.ownBlock) :
 Calls Tryz.prog 95 #[ep, sv, v] w (zbN w v.ownBlock (xs ++ zbw l)) := by
 obtain ⟨A, c, rfl, hlen, hnc, hr⟩ := h; obtain ⟨a', n', k', rfl⟩ := zae hown; obtain ⟨n, hn⟩ : ∃ n, l.length = n := ⟨_, rfl⟩; rw [hn] at hnc hr hsl ⊢; have hE := Enc.made (z := .int .u8 0) hown _ rfl; have hQ := zcn w.heap.size _ xs 5 _ hE (by omega); have e2 : ((5 : UInt8).toNat : Int) = 5 := rfl; rw [e2] at hQ; have HN := zk7 hn; have HR := zk7 hr; have HP := zk7 hP
 have HE := zk7 hE; clear hE hr e2 hn hlen hP; go_enter Tryz.func95, Tryz.ntmps95; go_wp2_with (go_at_call 180; refine hQ.mono ?_; rintro r1 w1 ⟨rfl, R⟩; refine Hid.out ?_)
 have HR1 := zk7 R; clear R hQ; refine zk7 ?_; go_wp2_with fail
 have hFW : Fr (fun k => some k = (Value.slice a' n' k').ownBlock) w (w.alloc (.cells #[.slice a' n' k', .int .u8 0, .int .u8 0, .int .u8 0, .int .u8 0, .int .u8 0, .int .u8 0, .int .u8 0, .int .u8 0, .int .u8 0, .int .u8 0] 224)) := (zlW _ w).alloc _; generalize hWB : w.alloc _ = WB at HE HR1 hFW; have hB : w.heap.size < WB.heap.size := by rw [← hWB]; simp
 clear hWB; have HFW := zk7 hFW; clear hFW; go_loopw [15] (fun i wr => ∃ k : Nat, k ≤ n ∧ i = .int .i64 k ∧ Put WB w.heap.size (Value.slice a' n' k').ownBlock xs ([5] ++ (l.take k).flatMap zcv) wr) (fun i _ => n - (intOf i).toNat)
 case atStart => exact ⟨0, zli _, rfl, by simpa using HR1.out⟩
 case round =>
  obtain ⟨k, hk, rfl, R⟩ := hrel; by_cases hlt : k < n
  ·obtain ⟨g, off, rfl, hPg, hcell⟩ := HR.out (by omega)
   have hg := HP.out g hPg; obtain ⟨x, hx⟩ : ∃ x, l[k]? = some x := ⟨_, zk9 (by rw [HN.out]; exact hlt)⟩; have hwx := hwf x (zlf hx); have hFk : Fr (fun k => some k = (Value.slice a' n' k').ownBlock) w wr := HFW.out.trans R.fr (fun k hk e => by
    rcases e with e | e
    ·omega
    ·exact e)
   have cc : ∀ j, j < 2 → ∀ u, (Mrk.c x)[j]? = some u → wr.cell? ⟨g, off + (k * 2 + j), none⟩ = some u := fun j hj u hu => by
    have := hcell (k * 2 + j) u (by rw [zci Mrk.c (fun _ => rfl) l k x hx j hj]; exact hu); rw [hFk.cell (p := ⟨g, off + (k * 2 + j), none⟩) hg.1 hg.2]; exact this
   have d0 : wr.cell? ⟨g, off + k * 2, none⟩ = some (.int .u64 x.ref) := cc 0 (by omega) _ rfl; have d1 : wr.cell? ⟨g, off + k * 2 + 1, none⟩ = some (.int .u64 x.mm) := cc 1 (by omega) _ rfl; have hyl : ([(5 : UInt8)] ++ (l.take k).flatMap zcv).length ≤ 1 + k * 16 := by
    have h1 := zdK zcv 16 (fun s => Nat.le_of_eq (zg4 s)) (l.take k); have h2 : (l.take k).length ≤ k := List.length_take_le _ _; have h3 : (l.take k).length * 16 ≤ k * 16 := zlk _ h2; rw [zk8, zlo]; omega
   have RA := R.alloc (.cells #[.int .u64 x.ref, .int .u64 x.mm] 166); have hQ1 := zag RA (f := 181) (args := #[.pointer (some ⟨w.heap.size, 0, none⟩), .int .u64 x.ref]) (zs := Lib.beBytes 8 x.ref) (fun o2 he => zco _ o2 _ _ hwx.1 _ he (by rw [zk8]; omega)); have hBx := Blk.new wr 166 #[.int .u64 x.ref, .int .u64 x.mm]; have x0 := hBx.cell 0; simp at x0; have HX := zk7 hx
   have HBX := zk7 hBx; have HL := zk7 hyl; clear hx hFk cc hBx hyl hcell; go_wp2_with (go_at_call 181; refine hQ1.mono ?_; rintro rA wA ⟨rfl, RB, KB⟩; refine Hid.out ?_)
   have hBx := KB.out _ _ _ (by decide) (by decide) HBX.out; have x1 := hBx.cell 1; simp at x1; have hQ2 := zag RB (f := 181) (args := #[.pointer (some ⟨w.heap.size, 0, none⟩), .int .u64 x.mm]) (zs := Lib.beBytes 8 x.mm) (fun o2 he => zco _ o2 _ _ hwx.2 _ he (by have := HL.out; rw [zk8, zk8, zlh]; omega)); clear hQ1 d0 d1 x0 hBx; refine zk7 ?_
   go_wp2_with (go_at_call 181; refine hQ2.mono ?_; rintro rD wD ⟨rfl, RD, KD⟩)
   have RE : Put WB w.heap.size (Value.slice a' n' k').ownBlock xs ([5] ++ (l.take (k + 1)).flatMap zcv) wD := by
    rw [zan zcv l k x HX.out]; simpa [zcv, zla] using RD
   have HRE := zk7 RE; clear RE RD RB hQ2 x1 KB KD R RA; go_wp2; go_roundw
   case rel => exact ⟨k + 1, by omega, by go_num, HRE.out⟩
   case measure => simp [intOf]; omega
  ·obtain rfl : k = n := by omega
   obtain ⟨oZ, hEZ, hfZ, hoZ⟩ := R; have hG := zdY _ _ _ _ hEZ; have HEZ := zk7 hEZ; have HZ := zk7 hfZ; clear hEZ hfZ; go_wp2_with (go_at_call 116; refine hG.mono ?_; rintro rr w2 ⟨v2, rfl, rfl, hown2, hv2⟩)
   go_ret; refine ⟨v2, rfl, ?_, HFW.out.trans HZ.out (fun k hk e => ?_), ?_⟩
   ·have e1 : l.take k = l := zlg (by rw [HN.out]; exact zlj _)
    rw [e1] at hown2; simpa [zbw] using hown2
   ·rcases e with e | e
    ·omega
    ·exact e
   ·rw [hv2]
    rcases hoZ with h | ⟨k2, h, hk2⟩
    ·exact .inl h
    ·exact .inr ⟨k2, h, by omega⟩
def zgl (V : Value → World → Prop) (w : World) (r : Ending) (w' : World) : Prop := ∃ v, r = .returned v ∧ V v w' ∧ Fr (fun _ => False) w w'
theorem Tryz.info108 : (Tryz.prog.info? 108).map (fun i => (i.zero, i.size, i.bytes)) = some (some (.agg #[.string ⟨#[]⟩, .string ⟨#[]⟩]), 2, 32) := by kernel_rfl
theorem zi9 (w : World) : Calls Tryz.prog 129 #[.int .i64 0] w (zgl (fun v _ => ∃ a, v = .agg #[.slice (some a) 0 0, .string ⟨#[]⟩, .slice none 0 0]) w) := by
 obtain ⟨i0, hi0, hz0, hz1, hz2⟩ := info_parts Tryz.info108; have hms : ∀ W : World, (Instr.makeSlice 115 (.int .i64 0) (.int .i64 0)).run Tryz.prog W = .ok (.slice (some ⟨W.heap.size, 0, none⟩) 0 0) (W.alloc (.cells #[] 108)) := fun W => by
  have h := run_make (P := Tryz.prog) W 115 108 i0 _ Tryz.underlying115 hi0 hz0 .i64 .i64 0 0 (by omega) (by omega) (by omega) (by omega); simp [madeCells, hz1, Array.range_zero'] at h; exact h
 go_enter Tryz.func129, Tryz.ntmps129; go_wp2_with fail
 simp [Exit.then, bodyPost, results, Tryz.results129, go_sem]; exact ⟨_, rfl, ⟨_, rfl⟩, (((zlW _ w).alloc _).alloc _)⟩
theorem type_none (d : Value) (P : Nat → Prop) (v : Value) (w : World) (h : Sl P w v 1 0 []) : Calls Tryz.prog 112 #[d, v] w fun r w' => r = .returned (.int .u8 255) ∧ w = w' := by
 obtain ⟨A, c, rfl, _⟩ := h; go_enter Tryz.func112, Tryz.ntmps112; go_wp2_with fail
 go_ret; exact ⟨rfl, rfl⟩
def zcj : List UInt8 → Nat
 | [] => 255
 | c :: _ => if 1 ≤ c.toNat ∧ c.toNat ≤ 10 then c.toNat else 255
theorem type_ten (k : Nat) (hk : 1 ≤ k ∧ k ≤ 10) (d : Value) (a : Addr) (n c : Nat) (hn : 0 < n) (w : World) (h : w.cell? a = some (.int .u8 k)) : Calls Tryz.prog 112 #[d, .slice (some a) n c] w fun r w' => r = .returned (.int .u8 k) ∧ w = w' := by
 have hn0 : ¬ ((n : Int) < 1) := by omega
 have hn1 : (0 : Int) < (n : Int) := by omega
 obtain ⟨g, off, x⟩ := a; obtain rfl | rfl | rfl | rfl | rfl | rfl | rfl | rfl | rfl | rfl : k = 1 ∨ k = 2 ∨ k = 3 ∨ k = 4 ∨ k = 5 ∨ k = 6 ∨ k = 7 ∨ k = 8 ∨ k = 9 ∨ k = 10 := by omega
 all_goals
  go_enter Tryz.func112, Tryz.ntmps112; go_wp2_with fail
  go_ret; exact ⟨rfl, rfl⟩
theorem type_odd (k : Nat) (hk : ¬ (1 ≤ k ∧ k ≤ 10)) (d : Value) (a : Addr) (n c : Nat) (hn : 0 < n) (w : World) (h : w.cell? a = some (.int .u8 k)) : Calls Tryz.prog 112 #[d, .slice (some a) n c] w fun r w' => r = .returned (.int .u8 255) ∧ w = w' := by
 have hn0 : ¬ ((n : Int) < 1) := by omega
 have hn1 : (0 : Int) < (n : Int) := by omega
 obtain ⟨g, off, x⟩ := a; have e1 : ¬ (k : Int) = 1 := by omega
 have e2 : ¬ (k : Int) = 2 := by omega
 have e3 : ¬ (k : Int) = 3 := by omega
 have e4 : ¬ (k : Int) = 4 := by omega
 have e5 : ¬ (k : Int) = 5 := by omega
 have e6 : ¬ (k : Int) = 6 := by omega
 have e7 : ¬ (k : Int) = 7 := by omega
 have e8 : ¬ (k : Int) = 8 := by omega
 have e9 : ¬ (k : Int) = 9 := by omega
 have e10 : ¬ (k : Int) = 10 := by omega
 clear hk; go_enter Tryz.func112, Tryz.ntmps112; go_wp2_with fail
 go_ret; exact ⟨rfl, rfl⟩
theorem type_any (d v : Value) (P : Nat → Prop) (xs : List UInt8) (w : World) (h : Sl P w v 1 xs.length (bc xs)) : Calls Tryz.prog 112 #[d, v] w fun r w' => r = .returned (.int .u8 (zcj xs)) ∧ w = w' := by
 rcases xs with _ | ⟨c, r⟩
 ·exact type_none d P v w h
 ·obtain ⟨A, cap, rfl, _, _, hr⟩ := h
  obtain ⟨g, off, rfl, _, hc⟩ := hr (by simp); have h0 := hc 0 _ rfl; by_cases hk : 1 ≤ c.toNat ∧ c.toNat ≤ 10
  ·rw [zcj, if_pos hk]; exact type_ten c.toNat hk d _ _ _ (by simp) w h0
  ·rw [zcj, if_neg hk]; exact type_odd c.toNat hk d _ _ _ (by simp) w h0
theorem zcU (v : Value) (w : World) : Calls Tryz.prog 67 #[v] w (zgl (fun v _ => ∃ a, v = .agg #[.slice (some a) 0 0, .string ⟨#[]⟩, .slice none 0 0]) w) := by
 have hS := zi9 (w.alloc (.cells #[.slice none 0 0, .string ⟨#[]⟩, .slice none 0 0] 119)); go_enter Tryz.func67, Tryz.ntmps67; go_wp2_with (refine hS.mono ?_; rintro r w1 ⟨v1, rfl, ⟨a, rfl⟩, hf1⟩; refine Hid.out ?_)
 have hB := (Blk.new w 119 #[.slice none 0 0, .string ⟨#[]⟩, .slice none 0 0]).fr hf1 (fun e => e); have k0 := hB.cell 0; have k1 := hB.cell 1; have k2 := hB.cell 2; have z0 := hB.frozen 0; have z1 := hB.frozen 1; have z2 := hB.frozen 2; simp at k0 k1 k2; have m1 := hB.set_ 0 (.slice (some a) 0 0); have m2 := m1.set_ 1 (.string ⟨#[]⟩); have m3 := m2.set_ 2 (.slice none 0 0); have e0 := m1.cell 0
 have e1 := m2.cell 1; have e2 := m3.cell 2; simp only [List.size_toArray, zlp, zlb, zlc, zld, zls, zlq, zlr] at e0 e1 e2; have HF := zk7 ((((zlW (fun _ => False) w).alloc _).same hf1)); have HB := zk7 hB; clear hS hf1 hB m1 m2 m3; refine zk7 ?_
 go_wp2_with fail
 simp [Exit.then, bodyPost, results, Tryz.results67, go_sem, e0, e1, e2]; exact ⟨_, rfl, ⟨_, rfl⟩, ((HF.out.setCell (p := ⟨w.heap.size, 0, none⟩) (.inr (zlj _)) _).setCell (p := ⟨w.heap.size, 1, none⟩) (.inr (zlj _)) _).setCell (p := ⟨w.heap.size, 2, none⟩) (.inr (zlj _)) _⟩
def typeName : Nat → ByteArray
 | 1 => ⟨#[115, 101, 114, 105, 101, 115]⟩
 | 2 => ⟨#[115, 97, 109, 112, 108, 101, 115]⟩
 | 3 => ⟨#[116, 111, 109, 98, 115, 116, 111, 110, 101, 115]⟩
 | 4 => ⟨#[101, 120, 101, 109, 112, 108, 97, 114, 115]⟩
 | 5 => ⟨#[109, 109, 97, 112, 109, 97, 114, 107, 101, 114, 115]⟩
 | 6 => ⟨#[109, 101, 116, 97, 100, 97, 116, 97]⟩
 | 7 => ⟨#[104, 105, 115, 116, 111, 103, 114, 97, 109, 95, 115, 97, 109, 112, 108, 101, 115]⟩
 | 8 => ⟨#[102, 108, 111, 97, 116, 95, 104, 105, 115, 116, 111, 103, 114, 97, 109, 95, 115, 97, 109, 112, 108, 101, 115]⟩
 | 9 => ⟨#[99, 117, 115, 116, 111, 109, 95, 98, 117, 99, 107, 101, 116, 115, 95, 104, 105, 115, 116, 111, 103, 114, 97, 109, 95, 115, 97, 109, 112, 108, 101, 115]⟩
 | 10 => ⟨#[99, 117, 115, 116, 111, 109, 95, 98, 117, 99, 107, 101, 116, 115, 95, 102, 108, 111, 97, 116, 95, 104, 105, 115, 116, 111, 103, 114, 97, 109, 95, 115, 97, 109, 112, 108, 101, 115]⟩
 | _ => ⟨#[117, 110, 107, 110, 111, 119, 110]⟩
theorem zgo (k : Nat) (hk : k = 1 ∨ k = 2 ∨ k = 3 ∨ k = 4 ∨ k = 5 ∨ k = 6 ∨ k = 7 ∨ k = 8 ∨ k = 9 ∨ k = 10 ∨ k = 255) (w : World) : Calls Tryz.prog 113 #[.int .u8 k] w fun r w' => r = .returned (.string (typeName k)) ∧ w = w' := by
 obtain rfl | rfl | rfl | rfl | rfl | rfl | rfl | rfl | rfl | rfl | rfl := hk; all_goals
  go_enter Tryz.func113, Tryz.ntmps113; go_wp2_with fail
  go_ret; exact ⟨rfl, rfl⟩
theorem zkd (xs : List UInt8) : zcj xs = 1 ∨ zcj xs = 2 ∨ zcj xs = 3 ∨ zcj xs = 4 ∨ zcj xs = 5 ∨ zcj xs = 6 ∨ zcj xs = 7 ∨ zcj xs = 8 ∨ zcj xs = 9 ∨ zcj xs = 10 ∨ zcj xs = 255 := by
 rcases xs with _ | ⟨c, r⟩
 ·simp [zcj]
 ·have e : zcj (c :: r) = if 1 ≤ c.toNat ∧ c.toNat ≤ 10 then c.toNat else 255 := rfl
  rw [e]; by_cases h : 1 ≤ c.toNat ∧ c.toNat ≤ 10
  ·rw [if_pos h]; omega
  ·rw [if_neg h]; simp
theorem zgr (v : Value) (P : Nat → Prop) (xs : List UInt8) (w : World) (h : Sl P w v 1 xs.length (bc xs)) : Calls Tryz.prog 42 #[v] w (zgl (fun u _ => u = .tuple #[.int .i64 (zcj xs), .string (typeName (zcj xs))]) w) := by
 have HS := zk7 h; have h3 := zkd xs; generalize hk : zcj xs = k at h3 ⊢; have HK := zk7 hk; have hkb : k ≤ 255 := by omega
 have H3 := zk7 h3; clear hk h h3; go_enter Tryz.func42, Tryz.ntmps42; go_wp2_with (first
  | (go_at_call 67; refine (zcU _ _).mono ?_; rintro r w1 ⟨v1, rfl, ⟨a, rfl⟩, hf1⟩)
  | (go_at_call 112; refine (type_any _ v P xs _ ((HS.out.fr hf1 (fun _ _ e => e)).fr ((zlW (fun _ => False) w1).alloc _) (fun _ _ e => e))).mono ?_; rintro r w2 ⟨rfl, rfl⟩; rw [HK.out])
  | (go_at_call 113; refine (zgo k H3.out _).mono ?_; rintro r w3 ⟨rfl, rfl⟩))
 go_ret2; exact ⟨_, rfl, rfl, ((zlW (fun _ => False) w).same hf1).alloc _⟩
end Go.Proofs.YtbkookiigkckdaaGreatDoor
namespace Go.Proofs.YtbkookiigkckdaaGreatDoor
open Go Go.RowKit
section
variable {P : Program} {ops : Array Oper} {Q : Exit → Act → World → Prop} {md : Region.Mode} {S : World → Prop} {c : Nat}
def zeh (P : Program) (md : Region.Mode) (ops : Array Oper) (Q : Exit → Act → World → Prop) (S : World → Prop) (c : Nat) : Nat → Array Bool → Act → World → Prop
 | 0, listed, a, w => Region.ready md ops listed = [] ∧ Q .normal a w
 | fuel + 1, listed, a, w =>
   (Region.ready md ops listed = [] → Q .normal a w) ∧
   ∀ i ∈ Region.ready md ops listed, wpOp P ops Q i (fun a' w' => ((listed.setIfInBounds i true).getD c false = false → S w') ∧ zeh P md ops Q S c fuel (listed.setIfInBounds i true) a' w') a w
theorem ze7 : ∀ (fuel : Nat) (listed : Array Bool) (a : Act) (w : World), zeh P md ops Q S c fuel listed a w → wpAny P md ops Q fuel listed a w
 | 0, _, _, _, h => h
 | fuel + 1, _, _, _, h => ⟨h.1, fun i hi => wpOp_mono (fun a' w' h' => ze7 fuel _ a' w' h'.2) (h.2 i hi)⟩
def behind (md : Region.Mode) (ops : Array Oper) (i : Nat) (C : List Nat) : Bool :=
 C.all fun j => Region.waitsFor md ops j i || C.any fun k => Region.waitsFor md ops j k
theorem zfm {C : List Nat} {i j : Nat} {listed : Array Bool} (hb : behind md ops i C = true) (hi : listed.getD i false = false) (hC : ∀ k ∈ C, listed.getD k false = false) (hj : j ∈ Region.ready md ops listed) : j ∉ C := by
 intro hjC; obtain ⟨_, oj, hoj, hall⟩ := mem_ready.1 hj; have h1 := List.all_eq_true.1 hb j hjC; rw [Bool.or_eq_true] at h1; have key : ∀ k, listed.getD k false = false → Region.waitsFor md ops j k = true → False := fun k hk hw => by
  obtain ⟨oj', hoj', e, he, hbd, hon⟩ := Region.waitsFor_spec hw; have : oj' = oj := zlV (hoj'.symm.trans hoj); subst this; have h2 := hall e he hbd; rw [hon, hk] at h2; cases h2
 rcases h1 with h1 | h1
 ·exact key i hi h1
 ·obtain ⟨k, hk, hw⟩ := List.any_eq_true.1 h1
  exact key k (hC k hk) hw
theorem ziW {C : List Nat} {i : Nat} {oi : Oper} {v : Value} (hi : ops[i]? = some oi) (hsel : ∀ (j : Nat) (o : Oper) cs b, ops[j]? = some o → o.op ≠ .select cs b)
 (hQ : ∀ c a w, Q (.panic c) (a.put oi.dst v) w → Q (.panic c) a w) (hb : behind md ops i C = true) (hc : c ∈ C) (hic : i ≠ c) :
 ∀ (fuel : Nat) (listed : Array Bool) (a : Act) (w : World),
  (∀ j oj, ops[j]? = some oj → j ≠ i → listed.getD j true = false → (∀ e ∈ oj.after, Region.binds md e = true → e.on ≠ i) → oi.apart ops oj = true) →
  (∀ k ∈ C, listed.getD k false = false) → i ∈ Region.ready md ops listed → YieldsIf P ops S oi v a → S w →
  zeh P md ops Q S c fuel (listed.setIfInBounds i true) (a.put oi.dst v) w → zeh P md ops Q S c (fuel + 1) listed a w := by
 intro fuel; induction fuel with
 | zero =>
   intro listed a w _ _ hr hy hS H; refine ⟨fun h => (by rw [h] at hr; cases hr), fun j hj => ?_⟩; by_cases hji : j = i
   ·subst hji; exact hy.wpOp hi hS ⟨fun _ => hS, H⟩
   ·have := ready_mono hj hji
    rw [H.1] at this; cases this
 | succ fuel ih =>
   intro listed a w hfree hC hr hy hS H; refine ⟨fun h => (by rw [h] at hr; cases hr), fun j hj => ?_⟩; by_cases hji : j = i
   ·subst hji; exact hy.wpOp hi hS ⟨fun _ => hS, H⟩
   ·have h1 := H.2 j (ready_mono hj hji)
    obtain ⟨hjun, oj, hoj, hall⟩ := mem_ready.1 hj; have hiun := getD_both (mem_ready.1 hr).1; have hjC : j ∉ C := zfm hb hiun hC hj; have hjc : j ≠ c := by rintro rfl; exact hjC hc
    have hnot : ∀ e ∈ oj.after, Region.binds md e = true → e.on ≠ i := fun e he hb heq => by
     have h1 := hall e he hb; rw [heq, hiun] at h1; cases h1
    have h2 := wpOp_putIf hoj (hfree j oj hoj hji hjun hnot) (fun cs b => hsel i oi cs b hi) (fun cs b => hsel j oj cs b hoj) hQ hy h1; have hfree' : ∀ k ok, ops[k]? = some ok → k ≠ i → (listed.setIfInBounds j true).getD k true = false →
     (∀ e ∈ ok.after, Region.binds md e = true → e.on ≠ i) → oi.apart ops ok = true := fun k ok hk hki hun hno => by
     refine hfree k ok hk hki ?_ hno; by_cases hjk : j = k
     ·subst hjk; exact hjun
     ·rw [getD_set_ne true hjk] at hun; exact hun
    have hC' : ∀ k ∈ C, (listed.setIfInBounds j true).getD k false = false := fun k hk => by
     have hkj : j ≠ k := by rintro rfl; exact hjC hk
     rw [getD_set_ne false hkj]; exact hC k hk
    have hcu : ((listed.setIfInBounds i true).setIfInBounds j true).getD c false = false := by
     rw [getD_set_ne false hjc, getD_set_ne false hic]; exact hC c hc
    refine wpOp_mono (fun a' w' h3 => ⟨fun _ => h3.2.1 hcu, ih (listed.setIfInBounds j true) a' w' hfree' hC' (ready_mono hr (Ne.symm hji)) h3.1 (h3.2.1 hcu) ?_⟩) h2; rw [Array.setIfInBounds_comm _ _ hji]; exact h3.2.2
theorem ziX {i : Nat} {oi : Oper} {v : Value} (hi : ops[i]? = some oi) (hsel : ∀ (j : Nat) (o : Oper) cs b, ops[j]? = some o → o.op ≠ .select cs b)
 (hQ : ∀ c a w, Q (.panic c) (a.put oi.dst v) w → Q (.panic c) a w) (hic : i ≠ c) :
 ∀ (fuel : Nat) (listed : Array Bool) (a : Act) (w : World),
  (∀ j oj, ops[j]? = some oj → j ≠ i → listed.getD j true = false → (∀ e ∈ oj.after, Region.binds md e = true → e.on ≠ i) → oi.apart ops oj = true) →
  (listed.getD c false = false → S w) → i ∈ Region.ready md ops listed → Yields P ops oi v a →
  zeh P md ops Q S c fuel (listed.setIfInBounds i true) (a.put oi.dst v) w → zeh P md ops Q S c (fuel + 1) listed a w := by
 have hset : ∀ (l : Array Bool), (l.setIfInBounds i true).getD c false = l.getD c false := fun l => getD_set_ne false hic; intro fuel; induction fuel with
 | zero =>
   intro listed a w _ hI hr hy H; refine ⟨fun h => (by rw [h] at hr; cases hr), fun j hj => ?_⟩; by_cases hji : j = i
   ·subst hji; exact hy.wpOp hi ⟨fun h => hI (by rw [hset] at h; exact h), H⟩
   ·have := ready_mono hj hji
    rw [H.1] at this; cases this
 | succ fuel ih =>
   intro listed a w hfree hI hr hy H; refine ⟨fun h => (by rw [h] at hr; cases hr), fun j hj => ?_⟩; by_cases hji : j = i
   ·subst hji; exact hy.wpOp hi ⟨fun h => hI (by rw [hset] at h; exact h), H⟩
   ·have h1 := H.2 j (ready_mono hj hji)
    obtain ⟨hjun, oj, hoj, hall⟩ := mem_ready.1 hj; have hiun := getD_both (mem_ready.1 hr).1; have hnot : ∀ e ∈ oj.after, Region.binds md e = true → e.on ≠ i := fun e he hb heq => by
     have h1 := hall e he hb; rw [heq, hiun] at h1; cases h1
    have h2 := wpOp_put hoj (hfree j oj hoj hji hjun hnot) (fun cs b => hsel i oi cs b hi) (fun cs b => hsel j oj cs b hoj) hQ hy h1; have hfree' : ∀ k ok, ops[k]? = some ok → k ≠ i → (listed.setIfInBounds j true).getD k true = false →
     (∀ e ∈ ok.after, Region.binds md e = true → e.on ≠ i) → oi.apart ops ok = true := fun k ok hk hki hun hno => by
     refine hfree k ok hk hki ?_ hno; by_cases hjk : j = k
     ·subst hjk; exact hjun
     ·rw [getD_set_ne true hjk] at hun; exact hun
    have hsw : ((listed.setIfInBounds i true).setIfInBounds j true).getD c false = (listed.setIfInBounds j true).getD c false := by
     rw [Array.setIfInBounds_comm _ _ (Ne.symm hji), hset]
    refine wpOp_mono (fun a' w' h3 => ⟨fun h => h3.2.1 (by rw [hsw]; exact h), ih (listed.setIfInBounds j true) a' w' hfree' (fun h => h3.2.1 (by rw [hsw]; exact h)) (ready_mono hr (Ne.symm hji)) h3.1 ?_⟩) h2; rw [Array.setIfInBounds_comm _ _ hji]; exact h3.2.2
theorem zaO (i : Nat) (C : List Nat) {oi : Oper} (v : Value) {fuel : Nat} {listed : Array Bool} {a : Act} {w : World} (hi : ops[i]? = some oi)
 (hs : Region.noSelect ops = true) (hf : Region.free md ops listed i = true) (hr : (Region.ready md ops listed).contains i = true) (hb : behind md ops i C = true) (hC : (C.all fun k => !listed.getD k false) = true) (hc : C.contains c = true) (hic : (i == c) = false)
 (hQ : ∀ c a w, Q (.panic c) (a.put oi.dst v) w → Q (.panic c) a w) (hw : Region.wanted oi (yielded ops a.tmps) = true) (hy : ∀ w, S w → (execOp a.eval oi).run P w = .ok (.value v) w) (hS : S w)
 (h : zeh P md ops Q S c fuel (listed.setIfInBounds i true) (a.put oi.dst v) w) : zeh P md ops Q S c (fuel + 1) listed a w :=
 ziW hi (Region.noSelect_spec hs) hQ hb (by simpa using hc) (by simpa using hic) fuel listed a w (Region.free_spec hi hf) (fun k hk => by simpa using List.all_eq_true.1 hC k hk) (by simpa using hr) (.inl ⟨hw, hy⟩) hS h
theorem zaw (i : Nat) {oi : Oper} (v : Value) {fuel : Nat} {listed : Array Bool} {a : Act} {w : World} (hi : ops[i]? = some oi)
 (hs : Region.noSelect ops = true) (hf : Region.free md ops listed i = true) (hr : (Region.ready md ops listed).contains i = true) (hic : (i == c) = false)
 (hQ : ∀ c a w, Q (.panic c) (a.put oi.dst v) w → Q (.panic c) a w) (hw : Region.wanted oi (yielded ops a.tmps) = true) (hy : ∀ w, (execOp a.eval oi).run P w = .ok (.value v) w) (hS : S w)
 (h : zeh P md ops Q S c fuel (listed.setIfInBounds i true) (a.put oi.dst v) w) : zeh P md ops Q S c (fuel + 1) listed a w :=
 ziX hi (Region.noSelect_spec hs) hQ (by simpa using hic) fuel listed a w (Region.free_spec hi hf) (fun _ => hS) (by simpa using hr) (.inl ⟨hw, hy⟩) h
theorem zbF (i : Nat) {fuel : Nat} {listed : Array Bool} {a : Act} {w : World} {o : Oper} (hr : Region.ready md ops listed = [i]) (ho : ops[i]? = some o)
 (hw : Region.wanted o (yielded ops a.tmps) = true)
 (h : ∀ K' : Act → World → Prop, Shut (∀ a w, S w → zeh P md ops Q S c fuel (listed.setIfInBounds i true) a w → K' a w) → Oper.wp P o a w K' Q) : zeh P md ops Q S c (fuel + 1) listed a w := by
 refine ⟨fun h0 => (by rw [hr] at h0; cases h0), fun j hj => ?_⟩; rw [hr, zlO] at hj; subst hj; unfold wpOp; simp only [ho, hw, if_true]; exact .inl (h _ (fun a w hS hW => ⟨fun _ => hS, hW⟩))
theorem zaP (i : Nat) {fuel : Nat} {listed : Array Bool} {a : Act} {w : World} {o : Oper} (hr : Region.ready md ops listed = [i]) (ho : ops[i]? = some o) (hc : (listed.setIfInBounds i true).getD c false = true)
 (hw : Region.wanted o (yielded ops a.tmps) = true)
 (h : ∀ K' : Act → World → Prop, Shut (∀ a w, zeh P md ops Q S c fuel (listed.setIfInBounds i true) a w → K' a w) → Oper.wp P o a w K' Q) : zeh P md ops Q S c (fuel + 1) listed a w := by
 refine ⟨fun h0 => (by rw [hr] at h0; cases h0), fun j hj => ?_⟩; rw [hr, zlO] at hj; subst hj; unfold wpOp; simp only [ho, hw, if_true]; exact .inl (h _ (fun a w hW => ⟨fun hn => (by rw [hc] at hn; cases hn), hW⟩))
theorem zds {listed : Array Bool} {a : Act} {w : World} (hr : Region.ready md ops listed = []) (h : Q .normal a w) :
 ∀ fuel, zeh P md ops Q S c fuel listed a w
 | 0 => ⟨hr, h⟩
 | _ + 1 => ⟨fun _ => h, by rw [hr]; simp⟩
theorem zcl (S : World → Prop) (c : Nat) {id : Nat} {a : Act} {w : World} (hm : P.follows .mixedOrders = true) (hS : S w.drew)
 (h : S w.drew → zeh P .any ops Q S c ops.size (Array.replicate ops.size false) a w.drew) : (Code.region id ops true).wp P Q a w :=
 wp_region_any hm (ze7 _ _ _ _ (h hS))
end
end Go.Proofs.YtbkookiigkckdaaGreatDoor
namespace Go.Proofs.YtbkookiigkckdaaGreatDoor
open Go.RowKit
theorem zdz (b : Nat) (w : World) : Calls Tryz.prog 73 #[.float .f64 b] w fun r w' => r = .returned (.int .u64 b) ∧ w = w' := by
 have h := zhW; go_enter Tryz.func73, Tryz.ntmps73; go_wp2_with fail
 go_ret; exact ⟨rfl, rfl⟩
theorem Tryz.info113 : (Tryz.prog.info? 113).map (fun i => (i.zero, i.size, i.bytes)) = some (some (.agg #[.int .u64 0, .int .i64 0, .int .u64 0]), 3, 24) := by kernel_rfl
def ReadEnds (w : World) (bb bp bo : Nat) (xs : List UInt8) (r : Ending) (w' : World) : Prop :=
 r = .returned (.tuple #[]) ∧ Fr (fun k => k = bb ∨ k = bp ∨ k = bo) w w' ∧ Blk w' bo 4 #[.bool (zal xs).isSome] ∧
  ∃ lv, Blk w' bp 54 #[.slice none 0 0, lv, .slice none 0 0, .slice none 0 0, .slice none 0 0, .slice none 0 0, .slice none 0 0] ∧ w'.ownsRow w.heap.size 113 3 lv ((zal xs).getD []).length (((zal xs).getD []).flatMap Smp.a)
theorem zfI (br : Nat) (bt : Int) : ∀ (k : Nat) (st : St) (acc : List Smp), (zbd br bt k st acc).1.length ≤ acc.length + k
 | 0, st, acc => by simp [zbd]
 | k + 1, none, acc => by simp [zbd]
 | k + 1, some [], acc => by simp [zbd]
 | k + 1, some (c :: r), acc => by
   have h := zfI br bt k (zbB br bt (some (c :: r))).2 (acc ++ [(zbB br bt (some (c :: r))).1]); rw [zk8, zlo] at h; show (zbd br bt k (zbB br bt (some (c :: r))).2 (acc ++ [(zbB br bt (some (c :: r))).1])).1.length ≤ _; omega
theorem zgA (xs : List UInt8) : ((zal xs).getD []).length ≤ xs.length := by
 rcases xs with _ | ⟨b, rest⟩
 ·simp [zal]
 ·unfold zal
  simp only []; split
  ·split
   ·simp
   ·have h := zfI (zac (some rest)).1 (zaq (zac (some rest)).2).1 rest.length (zaq (zac (some rest)).2).2 []
    split
    ·rename_i l' _ e
     rw [e] at h; simp at h ⊢; omega
    ·simp
  ·simp
theorem Rec.fr {te : TypeId} {pe : Value} {w w' : World} {g : Nat} {cur : Array Value} {xs : List UInt8} {v : Value} {S : Nat → Prop} (h : Rec te pe w g cur xs v) (hf : Fr S w w') (hg : ¬ S g) (h2 : ¬ S 2) : Rec te pe w' g cur xs v := by
 obtain ⟨off, c, rfl, hg', hl, hm, hr, hE⟩ := h; refine ⟨off, c, rfl, hg'.fr hf hg, hl, hm, hr, ?_⟩; rw [hf.cell (p := ⟨2, 0, none⟩) (zle w _ hE) h2]; exact hE
theorem zhk {W w5 w6 : World} {b t : Nat} {cs : Array Value} {v5 : Value} {n : Nat} {xs : List Value} (h : Blk W b t cs) (hf5 : Fr (fun _ => False) W.drew w5) (ho : w5.ownsRow W.drew.heap.size 137 3 v5 n xs) (hf6 : Fr (fun k => some k = v5.ownBlock) w5 w6) : Blk w6 b t cs :=
 (h.drew.fr hf5 (fun e => e)).fr hf6 (fun e => by have h1 := (ho.lt b e.symm).1; have h2 : b < W.heap.size := h.lt; exact zlR _ (zlw h2 h1))
theorem zjt {W w2 wr : World} {b t : Nat} {cs : Array Value} {v : Value} {n : Nat} {xs : List Value} {base : Nat} {o : Obj} (h : Blk W b t cs) (hg : ((W.alloc o).drew).grownBy w2 v.ownBlock) (hne : v.ownBlock ≠ some b) : Blk w2 b t cs :=
 ((h.alloc o).drew).grown hg (fun e => hne e.symm)
theorem zbU {w : World} {base base' : Nat} {e e' : TypeId} {size size' n n' : Nat} {v v' : Value} {xs xs' : List Value} (h : w.ownsRow base e size v n xs) (h' : w.ownsRow base' e' size' v' n' xs') (hne : e ≠ e') : ∀ g, v.ownBlock = some g → v'.ownBlock ≠ some g := by
 intro g hg; rcases h.2 with ⟨rfl, _⟩ | ⟨g', cap, cur, rfl, _, hh, _⟩
 ·simp [Value.ownBlock] at hg
 ·have : g' = g := by simpa [Value.ownBlock] using hg
  subst this; exact zak (t := e) h' hh (Ne.symm hne)
theorem zfL {w w' : World} {base : Nat} {o : Option Nat} {xs : List UInt8} {r : Ending} (h : zbb w base o xs r w') :
 ∃ v' e, r = .returned (.tuple #[v', e]) ∧ w'.ownsRow base 137 3 v' ((zal xs).getD []).length (((zal xs).getD []).flatMap Smp.b) ∧ Fr (fun k => some k = o) w w' ∧ ((e = .nilIface ∧ (zal xs).isSome = true) ∨ (∃ t a, e = .iface t a ∧ (zal xs).isSome = false)) := by
 unfold zbb at h; rcases hd : zal xs with _ | l
 ·rw [hd] at h
  obtain ⟨hf, t, a, rfl⟩ := h; exact ⟨_, _, rfl, zll _ _ _ _, hf, .inr ⟨_, _, rfl, rfl⟩⟩
 ·rw [hd] at h
  obtain ⟨hf, v', rfl, ho⟩ := h; exact ⟨_, _, rfl, ho, hf, .inl ⟨rfl, rfl⟩⟩
theorem zhi (te : TypeId) (pe : Value) (bb bk bq bp bo : Nat) (P : Nat → Prop) (q0 q1 q2 q3 q4 q5 q6 v : Value) (xs : List UInt8) (w : World) (hb : Blk w bb 44 #[v]) (hv : Sl P w v 1 xs.length (bc xs)) (hk : Blk w bk 3 #[.int .i64 2]) (hq : Blk w bq 54 #[q0, q1, q2, q3, q4, q5, q6]) (hs : Sl P w q1 3 0 [])
 (hp : Blk w bp 54 #[.slice none 0 0, .slice none 0 0, .slice none 0 0, .slice none 0 0, .slice none 0 0, .slice none 0 0, .slice none 0 0]) (ho : Blk w bo 4 #[.bool false]) (hE : w.cell? ⟨2, 0, none⟩ = some (.iface te pe)) (hxl : xs.length ≤ 1073741824)
 (hPb : ∀ g, P g → g ≠ bb) (hpq : bp ≠ bq) (h2 : bb ≠ 2 ∧ bp ≠ 2 ∧ bo ≠ 2) :
 Calls Tryz.prog 66 #[.pointer (some ⟨bb, 0, none⟩), .pointer (some ⟨bk, 0, none⟩), .pointer (some ⟨bq, 0, none⟩), .pointer (some ⟨bp, 0, none⟩), .pointer (some ⟨bo, 0, none⟩)] w (ReadEnds w bb bp bo xs) := by
 obtain ⟨i0, hi0, hz0, hz1, hz2⟩ := info_parts Tryz.info5; have HB := zk7 hb; have HV := zk7 hv; have HK := zk7 hk; have HQ := zk7 hq; have HS := zk7 hs; have HP := zk7 hp; have HO := zk7 ho; have HE := zk7 hE; have HPB := zk7 hPb; have hv1 : ∃ A m c, v = .slice A m c := let ⟨A, c, h, _⟩ := hv; ⟨A, _, c, h⟩
 obtain ⟨A, m, c, rfl⟩ := hv1; clear hb hv hk hq hs hp ho hE hPb; go_enter Tryz.func66, Tryz.ntmps66; go_wp2_with (first | (go_at_call 67; refine (zcU _ _).mono ?_; rintro r w1 ⟨v1, rfl, ⟨a, rfl⟩, hf1⟩; refine Hid.out ?_))
 have hB1 := ((HB.out.fr hf1 (fun e => e)).alloc (.cells #[.slice (some a) 0 0, .string ⟨#[]⟩, .slice none 0 0] 119)).alloc (.cells #[] 5); have b1 := hB1.cell 0; simp at b1; clear hB1; refine zk7 ?_; go_wp2_with (at_builtin; refine Hid.out ?_)
 have hO0 := World.ownsRow_made (base := w.heap.size) (e := 5) (size := 1) (w1.alloc (.cells #[.slice (some a) 0 0, .string ⟨#[]⟩, .slice none 0 0] 119)) #[] 0 (by have := hf1.size; simp; omega) (zli _) rfl; have hFA : Fr (fun _ => False) w ((w1.alloc (.cells #[.slice (some a) 0 0, .string ⟨#[]⟩, .slice none 0 0] 119)).alloc (.cells #[] 5)) := (hf1.alloc _).alloc _; have hs1 := hf1.size
 refine zk7 ?_; have hg0 : (w1.alloc (.cells #[.slice (some a) 0 0, .string ⟨#[]⟩, .slice none 0 0] 119)).heap.size = w1.heap.size + 1 := by simp
 rw [hg0] at hO0; clear b1; generalize World.alloc _ (Obj.cells #[] 5) = WA at hO0 hFA ⊢; have hsA := hFA.size; have hsrc := zc8 Tryz.underlying44 (HV.out.fr hFA (fun _ _ e => e)) (zet xs)
 refine zad _ rfl _ _ 44 44 rfl w.heap.size 5 i0 (.int .u8 0) 1 1 Tryz.underlying44 hi0 hz0 hz1 hz2 rfl (by decide) (.slice (some ⟨w1.heap.size + 1, 0, none⟩) 0 0) 0 [] rfl hO0 (.slice A m c) xs.length (bc xs) rfl hsrc (by unfold maxLen; omega) (by omega) (by omega) ?_; intro v' w2 hown' hgrow hat
 rw [zlC, zlJ] at hown'; obtain ⟨a2, k2, rfl⟩ := zaa hown'; have hge : ∀ k, (Value.slice (some ⟨w1.heap.size + 1, 0, none⟩) 0 0).ownBlock = some k → w.heap.size ≤ k := fun k hk => by
  have hk : w1.heap.size + 1 = k := zlV hk; omega
 have F2 : Fr (fun _ => False) w w2 := hFA.grown hgrow (fun k hk => .inr (hge k hk)); have hrow2 : ∃ g2 cur2, a2 = some ⟨g2, 0, none⟩ ∧ w.heap.size ≤ g2 ∧ Blk w2 g2 5 cur2 ∧ xs.length ≤ k2 ∧ k2 ≤ maxLen ∧ cur2.toList.take xs.length = bc xs := by
  rcases hown'.2 with ⟨h, _⟩ | ⟨g2, cap, cur2, h, h1, h3, h4, h5, _, h6⟩
  ·rw [h] at hat
   rcases hat with hat | hat <;> exact absurd hat (by simp [Value.ownBlock])
  ·injection h with e1 e2 e3
   subst e3; exact ⟨g2, cur2, e1, h1, h3, h4, h5, by simpa using h6⟩
 have hge2 : ∀ k, (Value.slice a2 xs.length k2).ownBlock = some k → w.heap.size ≤ k := fun k hk => (hown'.lt k hk).1; have lB := HB.out.lt; have gB := HB.out.fr F2 (fun e => e); have y0 := gB.cell 0; have y1 := gB.frozen 0; simp at y0
 have F3 : Fr (fun k => k = bb) w (w2.setCell ⟨bb, 0, none⟩ (.slice a2 xs.length k2)) := (F2.mono (S' := fun k => k = bb) (fun _ _ e => e.elim)).setCell (p := ⟨bb, 0, none⟩) (.inl rfl) _; have O3 : (w2.setCell ⟨bb, 0, none⟩ (.slice a2 xs.length k2)).ownsRow w.heap.size 5 1 (.slice a2 xs.length k2) xs.length (bc xs) := zah hown' (Fr.put_ w2 bb 0 _) (fun k hk e => by have := hge2 k hk; omega)
 have B3 : Blk (w2.setCell ⟨bb, 0, none⟩ (.slice a2 xs.length k2)) bb 44 #[.slice a2 xs.length k2] := by simpa using gB.set_ 0 (.slice a2 xs.length k2)
 have K3 := (HK.out.fr F3 (fun e => Blk.ne_ HK.out HB.out (by decide) e)).cell 0; have Q3 := HQ.out.fr F3 (fun e => Blk.ne_ HQ.out HB.out (by decide) e); have P3 := HP.out.fr F3 (fun e => Blk.ne_ HP.out HB.out (by decide) e); have O4 := HO.out.fr F3 (fun e => Blk.ne_ HO.out HB.out (by decide) e)
 have E3 : (w2.setCell ⟨bb, 0, none⟩ (.slice a2 xs.length k2)).cell? ⟨2, 0, none⟩ = some (.iface te pe) := by
  rw [F3.cell (p := ⟨2, 0, none⟩) (zle w _ HE.out) (fun e => h2.1 e.symm)]; exact HE.out
 simp at K3; have HF3 := zk7 F3; have HO3 := zk7 O3; have HB3 := zk7 B3; have HQ3 := zk7 Q3; have HP3 := zk7 P3; have HO4 := zk7 O4; have HE3 := zk7 E3; have HGE := zk7 hge2; obtain ⟨g2, cur2, rfl, hg2, hbk2, hk2, hk2m, htk2⟩ := hrow2
 have R3 : Rec te pe (w2.setCell ⟨bb, 0, none⟩ (.slice (some ⟨g2, 0, none⟩) xs.length k2)) g2 cur2 xs (.slice (some ⟨g2, 0, none⟩) xs.length k2) := by
  refine ⟨0, k2, rfl, hbk2.far (p := ⟨bb, 0, none⟩) (by show g2 ≠ bb; omega) _, hk2, ⟨by simp [maxLen] at hk2m; omega, by omega⟩, fun j u hu => ?_, E3⟩; rw [zlC, ← Array.getElem?_toList]; have hj : j < xs.length := by
   rcases zlA j xs.length with h | h
   ·exact h
   ·rw [zlB (by rw [zc6]; exact h)] at hu; cases hu
  rw [← htk2, List.getElem?_take_of_lt hj] at hu; exact hu
 have HR3 := zk7 R3; have hg2l := hbk2.lt; clear R3 hk2m htk2 hbk2; clear F2 F3 O3 B3 Q3 P3 O4 E3 gB hge hge2 hown' hgrow hat hsrc hO0 hFA hf1; go_wp2_with fail
 generalize w2.setCell ⟨bb, 0, none⟩ (.slice (some ⟨g2, 0, none⟩) xs.length k2) = W3 at HF3 HO3 HB3 HQ3 HP3 HO4 HE3 HR3 ⊢; have hl3 := HR3.out; have hg3 : g2 < W3.heap.size := let ⟨_, _, _, h, _⟩ := hl3; h.lt
 have h23 : 2 < W3.heap.size := zle W3 _ HE3.out; clear hl3; have hS3 : Sl P W3.drew q1 3 ([] : List Smp).length (([] : List Smp).flatMap Smp.a) := by
  obtain ⟨A, c, rfl, h1, h2, _⟩ := HS.out; exact ⟨A, c, rfl, rfl, h2, fun h => absurd h (by simp)⟩
 have hR1 := zek P q1 [] W3.drew hS3 (by simp); have hq1 : ∃ A m c, q1 = .slice A m c := let ⟨A, c, h, _⟩ := HS.out; ⟨A, _, c, h⟩
 obtain ⟨Aq, mq, cq, rfl⟩ := hq1; have x0 := HB3.out.cell 0; have x1 := HQ3.out.cell 1; have x0d : W3.drew.cell? ⟨bb, 0, none⟩ = some (.slice (some ⟨g2, 0, none⟩) xs.length k2) := x0; have x1d : W3.drew.cell? ⟨bq, 1, none⟩ = some (.slice Aq mq cq) := x1; simp at x0 x1; clear y0 y1 K3
 go_region_held3 (fun w' => w'.cell? ⟨bb, 0, none⟩ = some (.slice (some ⟨g2, 0, none⟩) xs.length k2) ∧ w'.cell? ⟨bq, 1, none⟩ = some (.slice Aq mq cq))
  ((first | (go_split_ands; refine ⟨?_, ?_⟩ <;> first | exact (HB3.out.drew.fr hf5 (fun e => e)).cell 0 | exact (HQ3.out.drew.fr hf5 (fun e => e)).cell 1) | (go_split_ands; refine ⟨?_, ?_⟩ <;> first | exact KB.out.cell 0 | exact KQ.out.cell 1) | go_keep))
  ((first
    | (go_at_call 72; refine hR1.mono ?_; rintro r5 w5 ⟨v5, rfl, hown5, hf5⟩)
    | (go_at_call 71; refine (zgB te pe _ g2 W3.drew.heap.size cur2 xs _ v5 w5 (HR3.out.fr (w := W3) (((zlW (fun _ => False) W3).drew).same hf5) (fun e => e) (fun e => e)) hown5 ⟨hg3, h23, hf5.size⟩).mono ?_; rintro r6 w6 hE6; obtain ⟨v6, e6, rfl, hown6, hf6, hor6⟩ := zfL hE6; clear hE6; have KB := zk7 (zhk HB3.out hf5 hown5 hf6); have KQ := zk7 (zhk HQ3.out hf5 hown5 hf6))))
 have T6 : Fr (fun k => k = bb) w w6 := ((HF3.out.trans (((zlW (fun _ => False) W3).drew).same hf5) (fun _ _ e => e.elim)).trans hf6 (fun k hk e => by
  have h1 := (hown5.lt k e.symm).1; have h2 := HF3.out.size; simp at h1; omega))
 have P6 := zhk HP3.out hf5 hown5 hf6; have O6 := zhk HO4.out hf5 hown5 hf6; have hz6 : w.heap.size ≤ W3.drew.heap.size := HF3.out.size; have V6 := zai hown6 hz6; have HT6 := zk7 T6; have HP6 := zk7 P6; have HO6 := zk7 O6; have HV6 := zk7 V6; have HOR := zk7 hor6; have hsz5 := hf5.size; have hsz6 := hf6.size
 have hb6 : ∀ k, v6.ownBlock = some k → k < w6.heap.size := fun k hk => zav hown6 hk; clear x0 x1 x0d x1d hR1 T6 P6 O6 V6 hor6 hown5 hf5 hown6 hf6 KB KQ HO3 HB3 HQ3 HP3 HO4 HE3 HR3 HF3; obtain ⟨l, hl⟩ : ∃ l, (zal xs).getD [] = l := ⟨_, rfl⟩; rw [hl] at HV6; have HLL := zk7 hl; clear hl; obtain ⟨a6, k6, rfl⟩ := zaa HV6.out; go_wp2_with fail
 obtain ⟨n, hn⟩ : ∃ n, l.length = n := ⟨_, rfl⟩; have HN := zk7 hn; rw [hn] at HV6 hb6 ⊢; clear hn; obtain ⟨i1, hi1, hy0, hy1, hy2⟩ := info_parts Tryz.info113; go_loopw [81] (fun i wr => ∃ (k : Nat) (lv : Value), k ≤ n ∧ i = .int .i64 k ∧ Hid (Fr (fun j => j = bb ∨ j = bp) w wr) ∧ Hid (wr.ownsRow w.heap.size 137 3 (.slice a6 n k6) n (l.flatMap Smp.b)) ∧ Hid (Blk wr bo 4 #[.bool false]) ∧
  Hid (Blk wr bp 54 #[.slice none 0 0, lv, .slice none 0 0, .slice none 0 0, .slice none 0 0, .slice none 0 0, .slice none 0 0]) ∧ Hid (wr.ownsRow w.heap.size 113 3 lv k ((l.take k).flatMap Smp.a))) (fun i _ => n - (intOf i).toNat)
 case atStart => exact ⟨0, _, zli _, rfl, zk7 (Fr.mono HT6.out (fun _ _ e => Or.inl e)), HV6, HO6, HP6, zk7 (zll _ _ _ _)⟩
 case round =>
  obtain ⟨k, lv, hk, rfl, RF, RV, RO, RP, RL⟩ := hrel; by_cases hlt : k < n
  ·obtain ⟨A7, c7, e7, _, _, hr7⟩ := Sl.ofOwn RV.out
   injection e7 with e7 _ e7c; subst e7 e7c; obtain ⟨g7, off7, rfl, _, hcell7⟩ := hr7 (by omega); obtain ⟨x, hx⟩ : ∃ x, l[k]? = some x := ⟨_, zk9 (by rw [HN.out]; exact hlt)⟩; have cc : ∀ j, j < 3 → ∀ u, (Smp.b x)[j]? = some u → wr.cell? ⟨g7, off7 + (k * 3 + j), none⟩ = some u := fun j hj u hu =>
    hcell7 (k * 3 + j) u (by rw [zeA Smp.b (fun _ => rfl) l k x hx j hj]; exact hu)
   have c0 : wr.cell? ⟨g7, off7 + k * 3, none⟩ = some (.int .u64 x.ref) := cc 0 (by omega) _ rfl; have c1 : wr.cell? ⟨g7, off7 + k * 3 + 1, none⟩ = some (.int .i64 x.t) := cc 1 (by omega) _ rfl; have c2 : wr.cell? ⟨g7, off7 + k * 3 + 2, none⟩ = some (.float .f64 x.v) := cc 2 (by omega) _ rfl; have hsf := zbu
   have HX := zk7 hx; obtain ⟨aL, kL, rfl⟩ := zaa RL.out; clear hcell7 hr7 cc hx; go_wp2_with fail
   have hB8 := Blk.new wr 137 #[.int .u64 x.ref, .int .i64 x.t, .float .f64 x.v]; have s0 := hB8.cell 0; have s1 := hB8.cell 1; have s2 := hB8.cell 2; have hP8 := RP.out.alloc (.cells #[.int .u64 x.ref, .int .i64 x.t, .float .f64 x.v] 137); have s3 := hP8.cell 1; simp only [zls, zlq, zlr] at s0 s1 s2 s3; have lP := RP.out.lt
   have hsz := RF.out.size; have hk40 : k < 1099511627776 := by have h1 := zgA xs; rw [HLL.out, HN.out] at h1; omega
   have HB8 := zk7 hB8; have HP8 := zk7 hP8; have hbpl := RP.out.lt; have s4 : ∀ o : Obj, ((wr.alloc (.cells #[.int .u64 x.ref, .int .i64 x.t, .float .f64 x.v] 137)).drew.alloc o).cell? ⟨bp, 1, none⟩ = some (.slice aL k kL) := fun o => by
    have h := (hP8.drew.alloc o).cell 1; simp only [zls, zlq, zlr] at h; exact h
   clear hB8 hP8; refine zcl (fun w' => w'.cell? ⟨bp, 1, none⟩ = some (.slice aL k kL) ∧ w'.cell? ⟨wr.heap.size, 0, none⟩ = some (.int .u64 x.ref) ∧ w'.cell? ⟨wr.heap.size, 1, none⟩ = some (.int .i64 x.t) ∧ w'.cell? ⟨wr.heap.size, 2, none⟩ = some (.float .f64 x.v)) 11 (by kernel_rfl) ⟨s3, s0, s1, s2⟩ ?_; intro hS
   refine zaw 0 (.pointer (some ⟨bp, 1, none⟩)) rfl (by kernel_rfl) (by kernel_rfl) (by kernel_rfl) (by kernel_rfl) (fun _ _ _ h => h) (by rfl) (by intro w; go_simp) hS ?_; try simp only [Act.put, zlb, zlc, zld]
   refine zaO 1 [11, 13] (.slice aL k kL) rfl (by kernel_rfl) (by kernel_rfl) (by kernel_rfl) (by kernel_rfl) (by kernel_rfl) (by kernel_rfl) (by kernel_rfl) (fun _ _ _ h => h) (by rfl) (by rintro w ⟨h1, h2, h3, h4⟩; go_simp) hS ?_; try simp only [Act.put, zlb, zlc, zld]
   refine zaw 2 (.pointer (some ⟨wr.heap.size, 0, none⟩)) rfl (by kernel_rfl) (by kernel_rfl) (by kernel_rfl) (by kernel_rfl) (fun _ _ _ h => h) (by rfl) (by intro w; go_simp) hS ?_; try simp only [Act.put, zlb, zlc, zld]
   refine zaO 3 [9, 10, 11, 13] (.int .u64 x.ref) rfl (by kernel_rfl) (by kernel_rfl) (by kernel_rfl) (by kernel_rfl) (by kernel_rfl) (by kernel_rfl) (by kernel_rfl) (fun _ _ _ h => h) (by rfl) (by rintro w ⟨h1, h2, h3, h4⟩; go_simp) hS ?_; try simp only [Act.put, zlb, zlc, zld]
   refine zaw 4 (.pointer (some ⟨wr.heap.size, 1, none⟩)) rfl (by kernel_rfl) (by kernel_rfl) (by kernel_rfl) (by kernel_rfl) (fun _ _ _ h => h) (by rfl) (by intro w; go_simp) hS ?_; try simp only [Act.put, zlb, zlc, zld]
   refine zaO 5 [9, 10, 11, 13] (.int .i64 x.t) rfl (by kernel_rfl) (by kernel_rfl) (by kernel_rfl) (by kernel_rfl) (by kernel_rfl) (by kernel_rfl) (by kernel_rfl) (fun _ _ _ h => h) (by rfl) (by rintro w ⟨h1, h2, h3, h4⟩; go_simp) hS ?_; try simp only [Act.put, zlb, zlc, zld]
   refine zaw 6 (.pointer (some ⟨wr.heap.size, 2, none⟩)) rfl (by kernel_rfl) (by kernel_rfl) (by kernel_rfl) (by kernel_rfl) (fun _ _ _ h => h) (by rfl) (by intro w; go_simp) hS ?_; try simp only [Act.put, zlb, zlc, zld]
   refine zaO 7 [8, 9, 10, 11, 13] (.float .f64 x.v) rfl (by kernel_rfl) (by kernel_rfl) (by kernel_rfl) (by kernel_rfl) (by kernel_rfl) (by kernel_rfl) (by kernel_rfl) (fun _ _ _ h => h) (by rfl) (by rintro w ⟨h1, h2, h3, h4⟩; go_simp) hS ?_; try simp only [Act.put, zlb, zlc, zld]
   refine zbF 8 (by kernel_rfl) rfl (by rfl) (fun K hK => ?_); go_simp; go_at_call 73
   refine (zdz _ _).mono ?_; rintro r w' ⟨rfl, rfl⟩; refine hK.out _ _ hS ?_; clear hK K; try simp only [Act.put, zlb, zlc, zld]
   refine zaw 9 (.agg #[.int .u64 x.ref, .int .i64 x.t, .int .u64 x.v]) rfl (by kernel_rfl) (by kernel_rfl) (by kernel_rfl) (by kernel_rfl) (fun _ _ _ h => h) (by rfl) (by intro w; go_simp) hS ?_; try simp only [Act.put, zlb, zlc, zld]
   refine zbF 10 (by kernel_rfl) rfl (by rfl) (fun K hK => ?_); go_simp; refine hK.out _ _ ⟨(HP8.out.alloc _).drew.cell 1, (HB8.out.alloc _).drew.cell 0, (HB8.out.alloc _).drew.cell 1, (HB8.out.alloc _).drew.cell 2⟩ ?_; clear hK K; try simp only [Act.put, zlb, zlc, zld]
   refine zaP 11 (by kernel_rfl) rfl (by kernel_rfl) (by rfl) (fun K hK => ?_)
   refine zbz _ _ _ 47 47 (by rfl) w.heap.size 113 i1 _ 3 24 Tryz.underlying47 hi1 hy0 hy1 hy2 rfl (by decide) (.slice aL k kL) k ((l.take k).flatMap Smp.a) (by rfl) ((RL.out.alloc _).alloc _).drew _ 1 (Smp.a x) (by rfl) (zaF Tryz.underlying47 (za6 wr _ 113 (Smp.a x).toArray).drew rfl (by simp [Smp.a, Value.oneCell'])) (by unfold maxLen; omega) (by omega) (by simp; omega) ?_
   intro v' w2 hown' hgrow hat
   obtain ⟨a9, k9, rfl⟩ := zaa hown'; have KP9 := zk7 (zjt (wr := wr) (n := k) (xs := []) (base := 0) HP8.out hgrow (zak RL.out RP.out (by decide))); have p9 := KP9.out.cell 1; have z9 := KP9.out.frozen 1; simp at p9; refine hK.out _ _ ?_; clear hK K hS; try simp only [Act.put, zlb, zlc, zld]
   refine zaP 12 (by kernel_rfl) rfl (by kernel_rfl) (by rfl) (fun K hK => ?_); go_simp; refine hK.out _ _ ?_; clear hK K; refine zaP 13 (by kernel_rfl) rfl (by kernel_rfl) (by rfl) (fun K hK => ?_); go_simp; refine hK.out _ _ ?_; clear hK K; refine zds (by kernel_rfl) ?_ _; all_goals
    have newP : Blk (w2.setCell ⟨bp, 1, none⟩ (.slice a9 (k + 1) k9)) bp 54 #[.slice none 0 0, .slice a9 (k + 1) k9, .slice none 0 0, .slice none 0 0, .slice none 0 0, .slice none 0 0, .slice none 0 0] := by simpa using KP9.out.set_ 1 (.slice a9 (k + 1) k9)
    have newO : Blk (w2.setCell ⟨bp, 1, none⟩ (.slice a9 (k + 1) k9)) bo 4 #[.bool false] := (((RO.out.alloc (.cells #[.int .u64 x.ref, .int .i64 x.t, .float .f64 x.v] 137)).alloc _).drew.grown hgrow (Ne.symm (zak RL.out RO.out (by decide)))).far (p := ⟨bp, 1, none⟩) (Blk.ne_ RO.out RP.out (by decide)) _
    have newL : (w2.setCell ⟨bp, 1, none⟩ (.slice a9 (k + 1) k9)).ownsRow w.heap.size 113 3 (.slice a9 (k + 1) k9) (k + 1) ((l.take (k + 1)).flatMap Smp.a) := by
     rw [zao Smp.a l k x HX.out]; exact zah hown' (Fr.put_ w2 bp 1 _) (fun g hg e => zak hown' KP9.out (by decide) (by rw [hg, e]))
    have fG : Fr (fun j => some j = (Value.slice aL k kL).ownBlock ∨ j = bp) wr (w2.setCell ⟨bp, 1, none⟩ (.slice a9 (k + 1) k9)) :=
     (((((zlW (fun j => some j = (Value.slice aL k kL).ownBlock ∨ j = bp) wr).alloc (.cells #[.int .u64 x.ref, .int .i64 x.t, .float .f64 x.v] 137)).alloc _).drew).grown hgrow (fun g hg => .inl (.inl hg.symm))).setCell (p := ⟨bp, 1, none⟩) (.inl (.inr rfl)) _
    have newV := zah RV.out fG (fun g hg e => by
     rcases e with e | e
     ·exact zbU RV.out RL.out (by decide) g hg e.symm
     ·exact zak RV.out RP.out (by decide) (by rw [hg, e]))
    have newF : Fr (fun j => j = bb ∨ j = bp) w (w2.setCell ⟨bp, 1, none⟩ (.slice a9 (k + 1) k9)) := RF.out.trans fG (fun j hj e => by
     rcases e with e | e
     ·have := (RL.out.lt j e.symm).1; omega
     ·exact .inr e)
    have NP := zk7 newP; have NO := zk7 newO; have NL := zk7 newL; have NV := zk7 newV; have NF := zk7 newF; clear newP newO newL newV newF fG hown' hgrow hat p9 z9 c0 c1 c2 s0 s1 s2 s3 s4; go_wp2; go_roundw
    case rel => exact ⟨k + 1, _, by omega, by go_num, NF, NV, NO, NP, NL⟩
    case measure => simp [intOf]; omega
  ·obtain rfl : k = n := by omega
   have o0 := RO.out.cell 0; have o1 := RO.out.frozen 0; simp at o0; have W1 : Blk (wr.setCell ⟨bo, 0, none⟩ (.bool (zal xs).isSome)) bo 4 #[.bool (zal xs).isSome] := by simpa using RO.out.set_ 0 (.bool (zal xs).isSome)
   have W2 := RP.out.far (p := ⟨bo, 0, none⟩) (Blk.ne_ RP.out RO.out (by decide)) (.bool (zal xs).isSome); have W3' := zah RL.out (Fr.put_ wr bo 0 (.bool (zal xs).isSome)) (fun g hg e => zak RL.out RO.out (by decide) (by rw [hg, e]))
   have W4 : Fr (fun k => k = bb ∨ k = bp ∨ k = bo) w (wr.setCell ⟨bo, 0, none⟩ (.bool (zal xs).isSome)) := (Fr.mono (S' := fun k => k = bb ∨ k = bp ∨ k = bo) RF.out (fun _ _ e => e.elim (fun h => Or.inl h) (fun h => Or.inr (Or.inl h)))).setCell (p := ⟨bo, 0, none⟩) (.inl (.inr (.inr rfl))) _; rcases HOR.out with ⟨rfl, hsome⟩ | ⟨t, ae, rfl, hsome⟩; all_goals
    rw [hsome] at W1 W2 W3' W4; have hW1 := zk7 W1; have hW2 := zk7 W2; have hW3 := zk7 W3'; have hW4 := zk7 W4; clear W1 W2 W3' W4; go_wp2_with fail
    go_end0; refine ⟨rfl, hW4.out, by rw [hsome]; exact hW1.out, lv, hW2.out, ?_⟩; have e1 : l.take k = l := zlg (by rw [HN.out]; exact zlj _); have h3 := hW3.out; rw [e1] at h3; rw [HLL.out, HN.out]; exact h3
def spc (p : Int × Nat) : List Value := [.int .i32 p.1, .int .u32 p.2]
def i1 (x : Int) : List Value := [.int .i64 x]
def u1 (x : Nat) : List Value := [.int .u64 x]
def f1 (x : Nat) : List Value := [.float .f64 x]
theorem Tryz.info361 : (Tryz.prog.info? 361).map (fun i => (i.zero, i.size, i.bytes)) = some (some (.agg #[.int .i32 0, .int .u32 0]), 2, 8) := by kernel_rfl
theorem Tryz.info319 : (Tryz.prog.info? 319).map (fun i => (i.zero, i.size, i.bytes)) = some (some (.agg #[.int .i32 0, .int .u32 0]), 2, 8) := by kernel_rfl
theorem Tryz.info135 : (Tryz.prog.info? 135).map (fun i => (i.zero, i.size, i.bytes)) = some (some (.float .f64 0), 1, 8) := by kernel_rfl
theorem Tryz.info111 : (Tryz.prog.info? 111).map (fun i => (i.zero, i.size, i.bytes)) = some (some (.int .u64 0), 1, 8) := by kernel_rfl
theorem Tryz.info2 : (Tryz.prog.info? 2).map (fun i => (i.zero, i.size, i.bytes)) = some (some (.int .i64 0), 1, 8) := by kernel_rfl
theorem zii {α : Type} (f : α → List Value) (h1 : ∀ x, (f x).length = 1) : ∀ (l : List α) (k : Nat) (x : α), l[k]? = some x → (l.flatMap f)[k]? = (f x)[0]?
 | [], k, x, h => by simp at h
 | y :: l, 0, x, h => by
   simp at h; subst h; rw [zlm, zlT (by rw [h1]; omega)]
 | y :: l, k + 1, x, h => by
   rw [zlm, zlU (by rw [h1]; omega), h1, Nat.add_sub_cancel]; exact zii f h1 l k x (by simpa using h)
def zhL (t : TypeId) (size : Nat) (w : World) (n : Nat) (cs : List Value) (r : Ending) (w' : World) : Prop :=
 ∃ v, r = .returned v ∧ w'.ownsRow w.heap.size t size v n cs ∧ Fr (fun _ => False) w w'
theorem zeF (P : Nat → Prop) (v : Value) (l : List (Int × Nat)) (w : World) (h : Sl P w v 2 l.length (l.flatMap spc)) (hl : l.length ≤ 1099511627776) :
 Calls Tryz.prog 235 #[v] w (zhL 361 2 w l.length (l.flatMap spc)) := by
 obtain ⟨A, c, rfl, hlen, hnc, hr⟩ := h; obtain ⟨n, hn⟩ : ∃ n, l.length = n := ⟨_, rfl⟩; rw [hn] at hr hnc hl ⊢; have HN := zk7 hn; have HR := zk7 hr; obtain ⟨i0, hi0, hz0, hz1, hz2⟩ := info_parts Tryz.info361; clear hn hr hlen; go_enter Tryz.func235, Tryz.ntmps235; go_wp2
 go_loopw [3, 8] (fun v i wr => ∃ k : Nat, k ≤ n ∧ i = .int .i64 k ∧ wr.ownsRow w.heap.size 361 2 v k ((l.take k).flatMap spc) ∧ Fr (fun _ => False) w wr) (fun _ i _ => n - (intOf i).toNat)
 case atStart => exact ⟨0, zli _, rfl, zll _ _ _ _, zlW _ _⟩
 case round =>
  obtain ⟨k, hk, rfl, hown, hf⟩ := hrel; by_cases hlt : k < n
  ·obtain ⟨g, off, rfl, _, hcell⟩ := HR.out (by omega)
   obtain ⟨x, hx⟩ : ∃ x, l[k]? = some x := ⟨_, zk9 (by rw [HN.out]; exact hlt)⟩; have cc : ∀ j, j < 2 → ∀ u, (spc x)[j]? = some u → wr.cell? ⟨g, off + (k * 2 + j), none⟩ = some u := fun j hj u hu => by
    have := hcell (k * 2 + j) u (by rw [zci spc (fun _ => rfl) l k x hx j hj]; exact hu); rw [hf.cell (p := ⟨g, off + (k * 2 + j), none⟩) (zle w _ this) (fun e => e)]; exact this
   have c0 : wr.cell? ⟨g, off + k * 2, none⟩ = some (.int .i32 x.1) := cc 0 (by omega) _ rfl; have c1 : wr.cell? ⟨g, off + k * 2 + 1, none⟩ = some (.int .u32 x.2) := cc 1 (by omega) _ rfl; have HC := zk7 hcell; have HO := zk7 hown; have HX := zk7 hx; obtain ⟨a', n', k', rfl⟩ := zae hown; clear hcell cc hown hx; go_wp2_with (at_builtin; refine Hid.out ?_)
   refine zk7 ?_; refine zad _ rfl _ _ 285 285 rfl w.heap.size 361 i0 _ 2 8 Tryz.underlying285 hi0 hz0 hz1 hz2 rfl (by decide) _ k ((l.take k).flatMap spc) rfl ((HO.out.alloc _).alloc _) _ 1 (spc x) rfl (zaF Tryz.underlying285 (za6 wr _ 361 (spc x).toArray) rfl (by simp [spc, Value.oneCell'])) (by unfold maxLen; omega) (by omega) (by have := hf.size; simp; omega) ?_
   intro v' w2 hown' hgrow hat
   have hown2 : w2.ownsRow w.heap.size 361 2 v' (k + 1) ((l.take (k + 1)).flatMap spc) := by rw [zao spc l k x HX.out]; exact hown'
   have hf2 : Fr (fun _ => False) w w2 := ((hf.alloc _).alloc _).grown hgrow (fun g hg => .inr (((HO.out.lt g hg)).1)); have HO2 := zk7 hown2; have HF2 := zk7 hf2; clear hown' hgrow hown2 hf2 hf c0 c1 hat
   go_wp2; go_roundw
   case rel => exact ⟨k + 1, by omega, by go_num, HO2.out, HF2.out⟩
   case measure => simp [intOf]; omega
  ·go_wp2
   go_ret; obtain rfl : k = n := by omega
   refine ⟨_, rfl, ?_, hf⟩; rw [← HN.out] at hown ⊢; rw [zly] at hown; exact hown
theorem zdA (P : Nat → Prop) (v : Value) (l : List (Int × Nat)) (w : World) (h : Sl P w v 2 l.length (l.flatMap spc)) (hl : l.length ≤ 1099511627776) :
 Calls Tryz.prog 237 #[v] w (zhL 319 2 w l.length (l.flatMap spc)) := by
 obtain ⟨A, c, rfl, hlen, hnc, hr⟩ := h; obtain ⟨n, hn⟩ : ∃ n, l.length = n := ⟨_, rfl⟩; rw [hn] at hr hnc hl ⊢; have HN := zk7 hn; have HR := zk7 hr; obtain ⟨i0, hi0, hz0, hz1, hz2⟩ := info_parts Tryz.info319; clear hn hr hlen; go_enter Tryz.func237, Tryz.ntmps237; go_wp2
 go_loopw [3, 8] (fun v i wr => ∃ k : Nat, k ≤ n ∧ i = .int .i64 k ∧ wr.ownsRow w.heap.size 319 2 v k ((l.take k).flatMap spc) ∧ Fr (fun _ => False) w wr) (fun _ i _ => n - (intOf i).toNat)
 case atStart => exact ⟨0, zli _, rfl, zll _ _ _ _, zlW _ _⟩
 case round =>
  obtain ⟨k, hk, rfl, hown, hf⟩ := hrel; by_cases hlt : k < n
  ·obtain ⟨g, off, rfl, _, hcell⟩ := HR.out (by omega)
   obtain ⟨x, hx⟩ : ∃ x, l[k]? = some x := ⟨_, zk9 (by rw [HN.out]; exact hlt)⟩; have cc : ∀ j, j < 2 → ∀ u, (spc x)[j]? = some u → wr.cell? ⟨g, off + (k * 2 + j), none⟩ = some u := fun j hj u hu => by
    have := hcell (k * 2 + j) u (by rw [zci spc (fun _ => rfl) l k x hx j hj]; exact hu); rw [hf.cell (p := ⟨g, off + (k * 2 + j), none⟩) (zle w _ this) (fun e => e)]; exact this
   have c0 : wr.cell? ⟨g, off + k * 2, none⟩ = some (.int .i32 x.1) := cc 0 (by omega) _ rfl; have c1 : wr.cell? ⟨g, off + k * 2 + 1, none⟩ = some (.int .u32 x.2) := cc 1 (by omega) _ rfl; have HC := zk7 hcell; have HO := zk7 hown; have HX := zk7 hx; obtain ⟨a', n', k', rfl⟩ := zae hown; clear hcell cc hown hx; go_wp2_with (at_builtin; refine Hid.out ?_)
   refine zk7 ?_; refine zad _ rfl _ _ 188 188 rfl w.heap.size 319 i0 _ 2 8 Tryz.underlying188 hi0 hz0 hz1 hz2 rfl (by decide) _ k ((l.take k).flatMap spc) rfl ((HO.out.alloc _).alloc _) _ 1 (spc x) rfl (zaF Tryz.underlying188 (za6 wr _ 319 (spc x).toArray) rfl (by simp [spc, Value.oneCell'])) (by unfold maxLen; omega) (by omega) (by have := hf.size; simp; omega) ?_
   intro v' w2 hown' hgrow hat
   have hown2 : w2.ownsRow w.heap.size 319 2 v' (k + 1) ((l.take (k + 1)).flatMap spc) := by rw [zao spc l k x HX.out]; exact hown'
   have hf2 : Fr (fun _ => False) w w2 := ((hf.alloc _).alloc _).grown hgrow (fun g hg => .inr (((HO.out.lt g hg)).1)); have HO2 := zk7 hown2; have HF2 := zk7 hf2; clear hown' hgrow hown2 hf2 hf c0 c1 hat
   go_wp2; go_roundw
   case rel => exact ⟨k + 1, by omega, by go_num, HO2.out, HF2.out⟩
   case measure => simp [intOf]; omega
  ·go_wp2
   go_ret; obtain rfl : k = n := by omega
   refine ⟨_, rfl, ?_, hf⟩; rw [← HN.out] at hown ⊢; rw [zly] at hown; exact hown
theorem zcX (P : Nat → Prop) (v : Value) (l : List Nat) (w : World) (h : Sl P w v 1 l.length (l.flatMap u1)) (hl : l.length ≤ 1099511627776) :
 Calls Tryz.prog 236 #[v] w (zhL 135 1 w l.length (l.flatMap f1)) := by
 obtain ⟨A, c, rfl, hlen, hnc, hr⟩ := h; obtain ⟨n, hn⟩ : ∃ n, l.length = n := ⟨_, rfl⟩; rw [hn] at hr hnc hl ⊢; have HN := zk7 hn; have HR := zk7 hr; obtain ⟨i0, hi0, hz0, hz1, hz2⟩ := info_parts Tryz.info135; clear hn hr hlen; go_enter Tryz.func236, Tryz.ntmps236; go_wp2
 go_loopw [3, 8] (fun v i wr => ∃ k : Nat, k ≤ n ∧ i = .int .i64 k ∧ wr.ownsRow w.heap.size 135 1 v k ((l.take k).flatMap f1) ∧ Fr (fun _ => False) w wr) (fun _ i _ => n - (intOf i).toNat)
 case atStart => exact ⟨0, zli _, rfl, zll _ _ _ _, zlW _ _⟩
 case round =>
  obtain ⟨k, hk, rfl, hown, hf⟩ := hrel; by_cases hlt : k < n
  ·obtain ⟨g, off, rfl, _, hcell⟩ := HR.out (by omega)
   obtain ⟨x, hx⟩ : ∃ x, l[k]? = some x := ⟨_, zk9 (by rw [HN.out]; exact hlt)⟩; have c0 : wr.cell? ⟨g, off + k, none⟩ = some (.int .u64 x) := by
    have := hcell k (.int .u64 x) (by rw [zii u1 (fun _ => rfl) l k x hx]; rfl); rw [hf.cell (p := ⟨g, off + k, none⟩) (zle w _ this) (fun e => e)]; exact this
   have HC := zk7 hcell; have HO := zk7 hown; have HX := zk7 hx; obtain ⟨a', n', k', rfl⟩ := zae hown; clear hcell hown hx; go_wp2_with (first
    | (go_at_call 167; refine (zec _ _).mono ?_; rintro r w' ⟨rfl, rfl⟩)
    | (at_builtin; refine Hid.out ?_))
   refine zk7 ?_; refine zad _ rfl _ _ 286 286 rfl w.heap.size 135 i0 _ 1 8 Tryz.underlying286 hi0 hz0 hz1 hz2 rfl (by decide) _ k ((l.take k).flatMap f1) rfl (HO.out.alloc _) _ 1 (f1 x) rfl (zaF Tryz.underlying286 (Blk.new wr 135 (f1 x).toArray) rfl (by simp [f1, Value.oneCell'])) (by unfold maxLen; omega) (by omega) (by have := hf.size; simp; omega) ?_
   intro v' w2 hown' hgrow hat
   have hown2 : w2.ownsRow w.heap.size 135 1 v' (k + 1) ((l.take (k + 1)).flatMap f1) := by rw [zao f1 l k x HX.out]; exact hown'
   have hf2 : Fr (fun _ => False) w w2 := (hf.alloc _).grown hgrow (fun g hg => .inr (((HO.out.lt g hg)).1)); have HO2 := zk7 hown2; have HF2 := zk7 hf2; clear hown' hgrow hown2 hf2 hf c0 hat
   go_wp2; go_roundw
   case rel => exact ⟨k + 1, by omega, by go_num, HO2.out, HF2.out⟩
   case measure => simp [intOf]; omega
  ·go_wp2
   go_ret; obtain rfl : k = n := by omega
   refine ⟨_, rfl, ?_, hf⟩; rw [← HN.out] at hown ⊢; rw [zly] at hown; exact hown
theorem zcT (P : Nat → Prop) (v : Value) (l : List Nat) (w : World) (h : Sl P w v 1 l.length (l.flatMap f1)) (hl : l.length ≤ 1099511627776) :
 Calls Tryz.prog 238 #[v] w (zhL 111 1 w l.length (l.flatMap u1)) := by
 obtain ⟨A, c, rfl, hlen, hnc, hr⟩ := h; obtain ⟨n, hn⟩ : ∃ n, l.length = n := ⟨_, rfl⟩; rw [hn] at hr hnc hl ⊢; have HN := zk7 hn; have HR := zk7 hr; obtain ⟨i0, hi0, hz0, hz1, hz2⟩ := info_parts Tryz.info111; clear hn hr hlen; go_enter Tryz.func238, Tryz.ntmps238; go_wp2
 go_loopw [3, 8] (fun v i wr => ∃ k : Nat, k ≤ n ∧ i = .int .i64 k ∧ wr.ownsRow w.heap.size 111 1 v k ((l.take k).flatMap u1) ∧ Fr (fun _ => False) w wr) (fun _ i _ => n - (intOf i).toNat)
 case atStart => exact ⟨0, zli _, rfl, zll _ _ _ _, zlW _ _⟩
 case round =>
  obtain ⟨k, hk, rfl, hown, hf⟩ := hrel; by_cases hlt : k < n
  ·obtain ⟨g, off, rfl, _, hcell⟩ := HR.out (by omega)
   obtain ⟨x, hx⟩ : ∃ x, l[k]? = some x := ⟨_, zk9 (by rw [HN.out]; exact hlt)⟩; have c0 : wr.cell? ⟨g, off + k, none⟩ = some (.float .f64 x) := by
    have := hcell k (.float .f64 x) (by rw [zii f1 (fun _ => rfl) l k x hx]; rfl); rw [hf.cell (p := ⟨g, off + k, none⟩) (zle w _ this) (fun e => e)]; exact this
   have HC := zk7 hcell; have HO := zk7 hown; have HX := zk7 hx; obtain ⟨a', n', k', rfl⟩ := zae hown; clear hcell hown hx; go_wp2_with (first
    | (go_at_call 73; refine (zdz _ _).mono ?_; rintro r w' ⟨rfl, rfl⟩)
    | (at_builtin; refine Hid.out ?_))
   refine zk7 ?_; refine zad _ rfl _ _ 190 190 rfl w.heap.size 111 i0 _ 1 8 Tryz.underlying190 hi0 hz0 hz1 hz2 rfl (by decide) _ k ((l.take k).flatMap u1) rfl (HO.out.alloc _) _ 1 (u1 x) rfl (zaF Tryz.underlying190 (Blk.new wr 111 (u1 x).toArray) rfl (by simp [u1, Value.oneCell'])) (by unfold maxLen; omega) (by omega) (by have := hf.size; simp; omega) ?_
   intro v' w2 hown' hgrow hat
   have hown2 : w2.ownsRow w.heap.size 111 1 v' (k + 1) ((l.take (k + 1)).flatMap u1) := by rw [zao u1 l k x HX.out]; exact hown'
   have hf2 : Fr (fun _ => False) w w2 := (hf.alloc _).grown hgrow (fun g hg => .inr (((HO.out.lt g hg)).1)); have HO2 := zk7 hown2; have HF2 := zk7 hf2; clear hown' hgrow hown2 hf2 hf c0 hat
   go_wp2; go_roundw
   case rel => exact ⟨k + 1, by omega, by go_num, HO2.out, HF2.out⟩
   case measure => simp [intOf]; omega
  ·go_wp2
   go_ret; obtain rfl : k = n := by omega
   refine ⟨_, rfl, ?_, hf⟩; rw [← HN.out] at hown ⊢; rw [zly] at hown; exact hown
end Go.Proofs.YtbkookiigkckdaaGreatDoor
