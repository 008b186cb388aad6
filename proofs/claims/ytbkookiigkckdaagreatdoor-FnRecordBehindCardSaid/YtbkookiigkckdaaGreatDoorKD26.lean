/- Merged. -/
import Derived.Test.YtbkookiigkckdaaGreatDoorKD17
import Derived.Test.YtbkookiigkckdaaGreatDoorKD22
import Derived.Test.YtbkookiigkckdaaGreatDoorKD24
import Derived.Test.YtbkookiigkckdaaGreatDoorKD25
set_option linter.unusedVariables false
set_option linter.unusedSimpArgs false
set_option maxRecDepth 100000
set_option maxHeartbeats 8000000
namespace Go.Proofs.YtbkookiigkckdaaGreatDoor
open Go.RowKit Go.Proofs.Tryz
theorem nil_sl (P : Nat -> Prop) (W : World) : Sl P W (.slice none 0 0) 1 ([] : List UInt8).length (bc []) := ⟨none, 0, rfl, rfl, zmt _, fun h => absurd h (zm1 _)⟩
theorem LabOk.wide {l : List Lab} (h : LabOk l 8 300) : LabOk l 12 600 := ⟨zm0 h.1 (by omega), fun p hp => by have := h.2.1 p hp; exact ⟨this.1, by omega, by omega⟩, h.2.2⟩
theorem zib {h : Hst} (k : h.few 2147483647) : h.few 1099511627776 := by
 obtain ⟨a, b, c, d, e, f, g⟩ := k; exact ⟨by omega, by omega, by omega, by omega, by omega, by omega, by omega⟩
theorem zft {p : Rhs} {fl : Bool} (h : (p.ref < 18446744073709551616 /\ -9223372036854775808 <= p.t /\ p.t <= 9223372036854775807) /\ p.h.wide) (hs : zbD fl p.h) : p.ok :=
 ⟨h.1.1, h.1.2.1, h.1.2.2, h.2.ok (by have h1 := hs.1; unfold Hst.total at h1; exact ⟨by omega, by omega, by omega, by omega, by omega, by omega, by omega⟩)⟩
end Go.Proofs.YtbkookiigkckdaaGreatDoor
namespace Go.Proofs.YtbkookiigkckdaaGreatDoor
open Go Go.ChangeShapes Go.WideShapes Go.ChangeAt Go.RowKit Go.Proofs.Tryz
theorem c46 : prog.cellsOf 46 = 1 := by kernel_rfl
theorem c47 : prog.cellsOf 47 = 1 := by kernel_rfl
theorem c48 : prog.cellsOf 48 = 1 := by kernel_rfl
theorem c49 : prog.cellsOf 49 = 1 := by kernel_rfl
theorem c50 : prog.cellsOf 50 = 1 := by kernel_rfl
theorem c51 : prog.cellsOf 51 = 1 := by kernel_rfl
theorem c52 : prog.cellsOf 52 = 1 := by kernel_rfl
theorem zkJ {H : Type} {enc : TypeId × Value -> H} {W : World} {cs : Array Value} {d : DataW H} {p : List MemPlace}
 (h : DataW.Trod enc prog W 0 (fun _ => true) true 54 (.agg cs) d p) (bD : cs.size = 7) : ∃ (q : Prt) (s0 s1 s2 s3 s4 s5 s6 : Value), cs = #[s0, s1, s2, s3, s4, s5, s6] /\ q.At (Old W) W s0 s1 s2 s3 s4 s5 s6 /\ q.Wide := by
 obtain ⟨fuel, fo⟩ := h; have ah : zbr enc W fuel 54 cs.toList (d, p) := fo; obtain ⟨n, _, hf⟩ := zbK underlying54 ah; obtain ⟨l⟩ := cs; have hl : l.length = 7 := by simpa using bD
 match l, hl with
 | [a0, a1, a2, a3, a4, a5, a6], _ =>
   obtain ⟨y0, h0⟩ := hf 0 _ a0 rfl c46 rfl; obtain ⟨y1, h1⟩ := hf 1 _ a1 rfl c47 rfl; obtain ⟨y2, h2⟩ := hf 2 _ a2 rfl c48 rfl; obtain ⟨y3, h3⟩ := hf 3 _ a3 rfl c49 rfl; obtain ⟨y4, h4⟩ := hf 4 _ a4 rfl c50 rfl; obtain ⟨y5, h5⟩ := hf 5 _ a5 rfl c51 rfl; obtain ⟨y6, h6⟩ := hf 6 _ a6 rfl c52 rfl; obtain ⟨l0, m0, w0, z0⟩ := in_series h0; obtain ⟨l1, m1, w1, z1⟩ := zlp h1
   obtain ⟨l2, m2, w2, z2⟩ := in_stones h2; obtain ⟨l3, m3, w3, z3⟩ := ziT h3; obtain ⟨l4, m4, w4, z4⟩ := zka h4; obtain ⟨l5, m5, w5, z5⟩ := zlq h5; obtain ⟨l6, m6, w6, z6⟩ := zh8 h6; exact ⟨⟨l0, l1, l2, l3, l4, l5, l6⟩, a0, a1, a2, a3, a4, a5, a6, rfl, ⟨z0, z1, z2, z3, z4, z5, z6⟩, ⟨m0, m1, m2, m3, m4, m5, m6, w0, w1, w2, w3, w4, w5, w6⟩⟩
end Go.Proofs.YtbkookiigkckdaaGreatDoor
