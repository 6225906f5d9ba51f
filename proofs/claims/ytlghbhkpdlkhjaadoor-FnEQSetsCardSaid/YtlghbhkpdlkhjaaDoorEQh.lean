/-
  A slice of slices of numbers that came in, as a row of rows. No condition.
-/
import Derived.Test.YtlghbhkpdlkhjaaDoorPEQ0
import Derived.Deep.Matrix
import Derived.ProofKit
import Derived.OpenShut
namespace Go.Proofs.YtlghbhkpdlkhjaaDoor.PEQ
open Go.RowKit Go.Proofs.YtlghbhkpdlkhjaaDoorW.PrintWords Go.Deep Go.ChangeShapes Go.WideShapes
set_option linter.unusedVariables false
theorem rows_C {H : Type} {enc : TypeId × Value → H} {W : World} {spare : Nat → Bool} {a0 : Option Addr} {len0 cap0 : Nat} {d : DataW H} {ps : List MemPlace}
    (h : DataW.Trod enc Tryd.prog W 0 (fun _ => true) true 29 (.slice a0 len0 cap0) d ps) : ∃ l : List (List Int), l.length = len0 ∧ len0 ≤ cap0 ∧ Kd.C (Kd.slice 3 (Kd.int .i64)) W a0 len0 l := by
  obtain ⟨fuel, hf⟩ := h
  rcases open_int_rows Tryd.underlying29 Tryd.underlying22 Tryd.underlying3 (by kernel_rfl) (by kernel_rfl) hf with ⟨hcs, _⟩ | ⟨a, len, cap, A, L, C, Z, hcs, _, hl, hm, _, hrow⟩
  · simp [Value.cells] at hcs
    obtain ⟨rfl, rfl, rfl⟩ := hcs
    exact ⟨[], rfl, Nat.le_refl _, Kd.C_nil _ _⟩
  · simp [Value.cells] at hcs
    obtain ⟨rfl, rfl, rfl⟩ := hcs
    refine ⟨(List.range len0).map fun r => (Z r).take (L r), by simp, hl, by simp, by unfold maxLen at hm; omega, fun _ => ⟨a, rfl, fun j p hj => ?_⟩⟩
    have hjl : j < len0 := by have := (List.getElem?_eq_some_iff.1 hj).1; simpa using this
    have hp : p = (Z j).take (L j) := by
      rw [List.getElem?_map, List.getElem?_range hjl] at hj
      exact (Option.some.inj hj).symm
    obtain ⟨r1, r2, r3, r4, r5, r6, r7⟩ := hrow j (by omega)
    have hpl : p.length = L j := by rw [hp, List.length_take]; omega
    refine ⟨[.slice (A j) (L j) (C j)], rfl, ⟨A j, C j, by rw [hpl], by rw [hpl]; exact r2, ?_⟩, fun i u hi => ?_⟩
    · rw [hpl]
      refine ⟨hpl, by unfold maxLen at r3; omega, fun hpos => ?_⟩
      cases hA : A j with
      | none => have := r6 hA; omega
      | some ad =>
        refine ⟨ad, rfl, fun i q hq => ?_⟩
        have hil : i < L j := by have := (List.getElem?_eq_some_iff.1 hq).1; omega
        have hz : q = (Z j).getD i 0 := by
          rw [hp, List.getElem?_take_of_lt hil] at hq
          rw [List.getD_eq_getElem?_getD, hq]
          rfl
        have hc := (r7 ad hA).2 i (by omega)
        refine ⟨[.int .i64 q], rfl, rfl, fun k u hk => ?_⟩
        cases k with
        | zero =>
          obtain rfl := Option.some.inj hk
          rw [hz]
          show W.cell? (ad.add (i * 1 + 0)) = _
          rw [Nat.mul_one, Nat.add_zero]
          exact hc
        | succ k => simp at hk
    · cases i with
      | zero =>
        obtain rfl := Option.some.inj hi
        show W.cell? (a.add (j * 1 + 0)) = _
        rw [Nat.mul_one, Nat.add_zero]
        exact r1
      | succ k => simp at hi
end Go.Proofs.YtlghbhkpdlkhjaaDoor.PEQ
