/-
  A slice of ranges of one column that came in, as a row of structs. No condition.
-/
import Derived.Test.YtlcoodjkolponaaDoorRRp
import Derived.Deep.Slices
import Derived.Deep.Matrix
import Derived.ProofKit
import Derived.OpenShut
namespace Go.Proofs.YtlcoodjkolponaaDoor.PRR
open Go.RowKit Go.Proofs.YtlcoodjkolponaaDoorW.PrintWords Go.Deep Go.ChangeShapes Go.WideShapes
set_option linter.unusedVariables false
theorem boundsR {n : Int} (h : (Lit.int .i64 n).wf = true) : I64 n := by
  simp only [Lit.wf, Bool.and_eq_true, decide_eq_true_eq] at h
  have h1 : IntKind.i64.min = -9223372036854775808 := by decide
  have h2 : IntKind.i64.max = 9223372036854775807 := by decide
  unfold I64
  omega
theorem col_cells {H : Type} {enc : TypeId × Value → H} {W : World} {base : Nat} {spare : Nat → Bool} {held : Bool} {n : Nat} {cs : List Value} {x : DataW H × List MemPlace}
    (hlen : cs.length = 4) (h : DataW.trod enc Tryd.prog W base spare held n 44 cs = some x) : ∃ y : S44, WholeS y ∧ cs = [.int .i64 y.f0.f0, .int .i64 y.f0.f1, .int .i64 y.f1.f0, .int .i64 y.f1.f1] := by
  match cs, hlen with
  | [c0, c1, c2, c3], _ =>
    obtain ⟨y0, y1, n, hx, _, h0, h1⟩ := trod_struct2 Tryd.underlying44 h
    have z23 : Tryd.prog.cellsOf 23 = 2 := by kernel_rfl
    have z3 : Tryd.prog.cellsOf 3 = 1 := by kernel_rfl
    have z2 : Tryd.prog.cellsOf 2 = 1 := by kernel_rfl
    have g0 : DataW.trod enc Tryd.prog W base spare held n 23 [c0, c1] = some y0 := by simpa [z23] using h0
    have g1 : DataW.trod enc Tryd.prog W base spare held n 23 [c2, c3] = some y1 := by simpa [z23] using h1
    obtain ⟨u0, u1, m, _, _, i0, i1⟩ := trod_struct2 Tryd.underlying23 g0
    obtain ⟨u2, u3, m2, _, _, i2, i3⟩ := trod_struct2 Tryd.underlying23 g1
    obtain ⟨a, e0, _, w0⟩ := DataW.trod_int Tryd.underlying3 i0
    obtain ⟨b, e1, _, w1⟩ := DataW.trod_int Tryd.underlying2 i1
    obtain ⟨c, e2, _, w2⟩ := DataW.trod_int Tryd.underlying3 i2
    obtain ⟨e, e3, _, w3⟩ := DataW.trod_int Tryd.underlying2 i3
    simp [z3, z2] at e0 e1 e2 e3
    subst e0; subst e1; subst e2; subst e3
    exact ⟨⟨⟨a, b⟩, ⟨c, e⟩⟩, ⟨boundsR w0, boundsR w1, boundsR w2, boundsR w3⟩, rfl⟩
theorem cols_C {H : Type} {enc : TypeId × Value → H} {W : World} {spare : Nat → Bool} {a0 : Option Addr} {len0 cap0 : Nat} {d : DataW H} {ps : List MemPlace}
    (h : DataW.Trod enc Tryd.prog W 0 spare true 40 (.slice a0 len0 cap0) d ps) : ∃ l : List S44, l.length = len0 ∧ len0 ≤ cap0 ∧ Kd.C k44 W a0 len0 l ∧ ∀ x ∈ l, WholeS x := by
  obtain ⟨fuel, hf⟩ := h
  rcases open_slice Tryd.underlying40 hf with ⟨hcs, _⟩ | ⟨a, len, cap, m, n, D, Pl, hcs, _, hl, hm, hmm, _, hx⟩
  · simp [Value.cells] at hcs
    obtain ⟨rfl, rfl, rfl⟩ := hcs
    exact ⟨[], rfl, Nat.le_refl _, Kd.C_nil _ _, by simp⟩
  · simp [Value.cells] at hcs
    obtain ⟨rfl, rfl, rfl⟩ := hcs
    have hlm : len0 ≤ m := by rw [hmm]; split <;> omega
    have c44 : Tryd.prog.cellsOf 44 = 4 := by kernel_rfl
    haveI : Inhabited S44 := ⟨z44⟩
    have each : ∀ i, i < len0 → ∃ y : S44, WholeS y ∧ ∀ k u, ([.int .i64 y.f0.f0, .int .i64 y.f0.f1, .int .i64 y.f1.f0, .int .i64 y.f1.f1] : List Value)[k]? = some u → W.cell? (a.add (i * 4 + k)) = some u := by
      intro i hi
      obtain ⟨cs', h1, h2⟩ := hx i (by omega)
      rw [c44] at h1
      obtain ⟨_, hlen, hcell⟩ := World.cells?_some h1
      obtain ⟨y, hy, rfl⟩ := col_cells hlen h2
      refine ⟨y, hy, fun k u hk => ?_⟩
      have hk4 : k < 4 := by have := (List.getElem?_eq_some_iff.1 hk).1; simpa using this
      have e := hcell k hk4
      rw [Deep.add_add] at e
      rw [e]; exact hk
    obtain ⟨q, hq⟩ := choose_lt each
    refine ⟨(List.range len0).map q, by simp, hl, ⟨by simp, by unfold maxLen at hm; omega, fun _ => ⟨a, rfl, fun j p hj => ?_⟩⟩, fun x hx => ?_⟩
    · have hjl : j < len0 := by have := (List.getElem?_eq_some_iff.1 hj).1; simpa using this
      have hp : p = q j := by
        rw [List.getElem?_map, List.getElem?_range hjl] at hj
        exact (Option.some.inj hj).symm
      subst hp
      exact ⟨[.int .i64 (q j).f0.f0, .int .i64 (q j).f0.f1, .int .i64 (q j).f1.f0, .int .i64 (q j).f1.f1], rfl, k44_mk W (q j), fun k u hk => (hq j hjl).2 k u hk⟩
    · obtain ⟨j, hj, rfl⟩ := List.mem_map.1 hx
      exact (hq j (List.mem_range.1 hj)).1
end Go.Proofs.YtlcoodjkolponaaDoor.PRR
