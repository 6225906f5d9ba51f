/-
  Rows of ranges that came in, opened. No condition.
-/
import Derived.Test.YtlcoodjkolponaaDoorRSq
import Derived.Deep.Slices
import Derived.Deep.Matrix
import Derived.ProofKit
import Derived.OpenShut
namespace Go.Proofs.YtlcoodjkolponaaDoor.PRR
open Go.RowKit Go.Proofs.YtlcoodjkolponaaDoorW.PrintWords Go.Deep Go.ChangeShapes Go.WideShapes
set_option linter.unusedVariables false
theorem boundsR2 {n : Int} (h : (Lit.int .i64 n).wf = true) : I64 n := by
  simp only [Lit.wf, Bool.and_eq_true, decide_eq_true_eq] at h
  have h1 : IntKind.i64.min = -9223372036854775808 := by decide
  have h2 : IntKind.i64.max = 9223372036854775807 := by decide
  unfold I64
  omega
theorem col_cells2 {H : Type} {enc : TypeId × Value → H} {W : World} {base : Nat} {spare : Nat → Bool} {held : Bool} {n : Nat} {cs : List Value} {x : DataW H × List MemPlace}
    (hlen : cs.length = 4) (h : DataW.trod enc Tryd.prog W base spare held n 44 cs = some x) : ∃ y : S44, WholeS y ∧ cs = [.int .i64 y.f0.f0, .int .i64 y.f0.f1, .int .i64 y.f1.f0, .int .i64 y.f1.f1] := by
  match cs, hlen with
  | [c0, c1, c2, c3], _ =>
    obtain ⟨y0, y1, n, hx, _, h0, h1⟩ := trod_struct2 Tryd.underlying44 h
    have z23 : Tryd.prog.cellsOf 23 = 2 := by kernel_rfl
    have z3 : Tryd.prog.cellsOf 3 = 1 := by kernel_rfl
    have z2 : Tryd.prog.cellsOf 2 = 1 := by kernel_rfl
    have g0 : DataW.trod enc Tryd.prog W base spare held n 23 [c0, c1] = some y0 := by simpa [z23] using h0
    have g1 : DataW.trod enc Tryd.prog W base spare held n 23 [c2, c3] = some y1 := by simpa [z23] using h1
    obtain ⟨u0, u1, m, _, _, i0, i1⟩ := trod_struct2 Tryd.underlying23 g0
    obtain ⟨u2, u3, m2, _, _, i2, i3⟩ := trod_struct2 Tryd.underlying23 g1
    obtain ⟨a, e0, _, w0⟩ := DataW.trod_int Tryd.underlying3 i0
    obtain ⟨b, e1, _, w1⟩ := DataW.trod_int Tryd.underlying2 i1
    obtain ⟨c, e2, _, w2⟩ := DataW.trod_int Tryd.underlying3 i2
    obtain ⟨e, e3, _, w3⟩ := DataW.trod_int Tryd.underlying2 i3
    simp [z3, z2] at e0 e1 e2 e3
    subst e0; subst e1; subst e2; subst e3
    exact ⟨⟨⟨a, b⟩, ⟨c, e⟩⟩, ⟨boundsR2 w0, boundsR2 w1, boundsR2 w2, boundsR2 w3⟩, rfl⟩
section
variable {H : Type} {enc : TypeId × Value → H} {P : Program} {W : World} {base : Nat} {spare : Nat → Bool} {held : Bool}
/-- A slice that came in, as a row of what its elements are, and what holds of each. -/
theorem open_rowP {α : Type} [Inhabited α] (d : Kd α) (q0 : α → Prop) (e t : TypeId) (ht : P.underlying t = some (.slice e)) (hc : P.cellsOf e = d.sz)
    (he : ∀ n cs x, cs.length = d.sz → DataW.trod enc P W base spare held n e cs = some x → ∃ y : α, q0 y ∧ d.K W y cs) (n : Nat) (cs : List Value) (x : DataW H × List MemPlace)
    (h : DataW.trod enc P W base spare held n t cs = some x) : ∃ l : List α, (∀ y ∈ l, q0 y) ∧ (Kd.slice e d).K W l cs := by
  rcases open_slice ht h with ⟨rfl, _⟩ | ⟨a, len, cap, m, n, D, Pl, rfl, _, hl, hm, hmm, _, hx⟩
  · exact ⟨[], (fun _ h => by cases h), none, 0, rfl, Nat.le_refl _, Kd.C_nil _ _⟩
  · have hlm : len ≤ m := by rw [hmm]; split <;> omega
    have each : ∀ i, i < len → ∃ y : α, q0 y ∧ ∃ cs' : List Value, cs'.length = d.sz ∧ d.K W y cs' ∧ ∀ k u, cs'[k]? = some u → W.cell? (a.add (i * d.sz + k)) = some u := by
      intro i hi
      obtain ⟨cs', h1, h2⟩ := hx i (by omega)
      rw [hc] at h1
      obtain ⟨_, hlen, hcell⟩ := World.cells?_some h1
      obtain ⟨y, hp, hy⟩ := he _ _ _ hlen h2
      refine ⟨y, hp, cs', hlen, hy, fun k u hk => ?_⟩
      have hk4 : k < d.sz := by have := (List.getElem?_eq_some_iff.1 hk).1; omega
      have e := hcell k hk4
      rw [Deep.add_add] at e
      rw [e]; exact hk
    obtain ⟨q, hq⟩ := choose_lt each
    refine ⟨(List.range len).map q, fun y hy => ?_, some a, cap, by simp, by simpa using hl, ⟨rfl, by unfold maxLen at hm; simp; omega, fun _ => ⟨a, rfl, fun j p hj => ?_⟩⟩⟩
    · obtain ⟨j, hj, rfl⟩ := List.mem_map.1 hy
      exact (hq j (List.mem_range.1 hj)).1
    · have hjl : j < len := by have := (List.getElem?_eq_some_iff.1 hj).1; simpa using this
      have hp : p = q j := by
        rw [List.getElem?_map, List.getElem?_range hjl] at hj
        exact (Option.some.inj hj).symm
      subst hp
      exact (hq j hjl).2
theorem cols_K (n : Nat) (cs : List Value) (x : DataW H × List MemPlace) (h : DataW.trod enc Tryd.prog W base spare held n 40 cs = some x) : ∃ l : List S44, (∀ y ∈ l, WholeS y) ∧ (Kd.slice 44 k44).K W l cs :=
  haveI : Inhabited S44 := ⟨z44⟩
  open_rowP k44 WholeS 44 40 Tryd.underlying40 (by kernel_rfl) (fun n cs x hl h => by
    obtain ⟨y, hw, rfl⟩ := col_cells2 hl h
    exact ⟨y, hw, k44_mk W y⟩) n cs x h
theorem rows_K (n : Nat) (cs : List Value) (x : DataW H × List MemPlace) (h : DataW.trod enc Tryd.prog W base spare held n 33 cs = some x) : ∃ l : List (List S44), (∀ y ∈ l, ∀ z ∈ y, WholeS z) ∧ (Kd.slice 40 (Kd.slice 44 k44)).K W l cs :=
  open_rowP (Kd.slice 44 k44) (fun y => ∀ z ∈ y, WholeS z) 40 33 Tryd.underlying33 (by kernel_rfl) (fun n cs x _ h => cols_K n cs x h) n cs x h
/-- The argument. -/
theorem rows_C {a0 : Option Addr} {len0 cap0 : Nat} {d : DataW H} {ps : List MemPlace} (h : DataW.Trod enc Tryd.prog W base spare held 33 (.slice a0 len0 cap0) d ps) :
    ∃ l : List (List S44), l.length = len0 ∧ (∀ y ∈ l, ∀ z ∈ y, WholeS z) ∧ Kd.C (Kd.slice 44 k44) W a0 len0 l := by
  obtain ⟨fuel, hf⟩ := h
  have hf : DataW.trod enc Tryd.prog W base spare held fuel 33 [.slice a0 len0 cap0] = some (d, ps) := by simpa [Value.cells] using hf
  obtain ⟨l, hw, A, c, e, _, hC⟩ := rows_K _ _ _ hf
  cases e
  exact ⟨l, rfl, hw, hC⟩
end
end Go.Proofs.YtlcoodjkolponaaDoor.PRR
