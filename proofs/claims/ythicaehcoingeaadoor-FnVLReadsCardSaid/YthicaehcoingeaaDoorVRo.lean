/-
  An argument of eight bytes, opened. No condition.
-/
import Derived.Test.YthicaehcoingeaaDoorRows
import Derived.WalkKit
import Derived.ProofKit
import Derived.OpenShut
set_option maxRecDepth 100000
namespace Go.Proofs.YthicaehcoingeaaDoor.PVL
open Go.ChangeShapes Go.WideShapes Go.ChangeAt Go.RowKit
theorem list8 {l : List Value} {v0 v1 v2 v3 v4 v5 v6 v7 : Value} (hl : l.length = 8) (e0 : (l.drop 0).take 1 = [v0]) (e1 : (l.drop 1).take 1 = [v1]) (e2 : (l.drop 2).take 1 = [v2]) (e3 : (l.drop 3).take 1 = [v3]) (e4 : (l.drop 4).take 1 = [v4]) (e5 : (l.drop 5).take 1 = [v5]) (e6 : (l.drop 6).take 1 = [v6]) (e7 : (l.drop 7).take 1 = [v7]) :
    l = [v0, v1, v2, v3, v4, v5, v6, v7] := by
  match l, hl with
  | [c0, c1, c2, c3, c4, c5, c6, c7], _ =>
    simp only [List.drop_zero, List.drop_succ_cons, List.take_succ_cons, List.take_zero, List.cons.injEq, and_true] at e0 e1 e2 e3 e4 e5 e6 e7
    rw [e0, e1, e2, e3, e4, e5, e6, e7]
theorem open_bytes8 {H : Type} {enc : TypeId × Value → H} {w : World} {base b0 : Nat} {spare : Nat → Bool} {held : Bool} {v : Value} {d : DataW H} {p : List MemPlace}
    (hv : Value.okWide Tryd.prog w .any b0 33 v) (h : DataW.Trod enc Tryd.prog w base spare held 33 v d p) :
    ∃ x0 x1 x2 x3 x4 x5 x6 x7 : Int, v = .agg #[.int .u8 x0, .int .u8 x1, .int .u8 x2, .int .u8 x3, .int .u8 x4, .int .u8 x5, .int .u8 x6, .int .u8 x7] ∧ (0 ≤ x0 ∧ x0 ≤ 255) ∧ (0 ≤ x1 ∧ x1 ≤ 255) ∧ (0 ≤ x2 ∧ x2 ≤ 255) ∧ (0 ≤ x3 ∧ x3 ≤ 255) ∧ (0 ≤ x4 ∧ x4 ≤ 255) ∧ (0 ≤ x5 ∧ x5 ≤ 255) ∧ (0 ≤ x6 ∧ x6 ≤ 255) ∧ (0 ≤ x7 ∧ x7 ≤ 255) := by
  have hu : Tryd.prog.underlying 33 = some (.array 8 5) := by kernel_rfl
  have hu5 : Tryd.prog.underlying 5 = some (.int .u8) := by kernel_rfl
  have hc5 : Tryd.prog.cellsOf 5 = 1 := by kernel_rfl
  have hc33 : Tryd.prog.cellsOf 33 = 8 := by kernel_rfl
  simp only [Value.okWide, hu] at hv
  obtain ⟨cs, rfl, hsz, -⟩ := hv
  rw [hc33] at hsz
  obtain ⟨fuel, hf⟩ := h
  obtain ⟨xs, m, -, -, -, hlen, hi⟩ := DataW.trod_array hu hf
  have key : ∀ i, i < 8 → ∃ x : Int, (cs.toList.drop i).take 1 = [.int .u8 x] ∧ 0 ≤ x ∧ x ≤ 255 := by
    intro i h8
    have h1 := hi i h8
    rw [hc5, Nat.mul_one, List.getElem?_eq_getElem (by omega)] at h1
    obtain ⟨x, e, -, wf⟩ := DataW.trod_int hu5 h1
    exact ⟨x, by simpa [Value.cells] using e, (bounds_u8 wf).1, (bounds_u8 wf).2⟩
  obtain ⟨l⟩ := cs
  have hl : l.length = 8 := by simpa using hsz
  obtain ⟨x0, e0, b0⟩ := key 0 (by omega)
  obtain ⟨x1, e1, b1⟩ := key 1 (by omega)
  obtain ⟨x2, e2, b2⟩ := key 2 (by omega)
  obtain ⟨x3, e3, b3⟩ := key 3 (by omega)
  obtain ⟨x4, e4, b4⟩ := key 4 (by omega)
  obtain ⟨x5, e5, b5⟩ := key 5 (by omega)
  obtain ⟨x6, e6, b6⟩ := key 6 (by omega)
  obtain ⟨x7, e7, b7⟩ := key 7 (by omega)
  refine ⟨x0, x1, x2, x3, x4, x5, x6, x7, ?_, b0, b1, b2, b3, b4, b5, b6, b7⟩
  have e := list8 hl e0 e1 e2 e3 e4 e5 e6 e7
  rw [e]
end Go.Proofs.YthicaehcoingeaaDoor.PVL
