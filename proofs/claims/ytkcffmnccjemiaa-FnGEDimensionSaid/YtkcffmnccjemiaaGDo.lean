/-
  An argument of points, lines, polygons and parts, opened. No condition.
-/
import Derived.Test.YtkcffmnccjemiaaRows
import Derived.Test.YtkcffmnccjemiaaGDa
import Derived.Deep.Slices
import Derived.Deep.Matrix
import Derived.WalkKit
import Derived.ProofKit
import Derived.OpenShut
import Derived.Lib.SmallJoins
set_option maxRecDepth 100000
namespace Go.Proofs.Ytkcffmnccjemiaa.GD
open Go.RowKit Go.Proofs.YtkcffmnccjemiaaW.PrintWords Go.Deep Go.ChangeShapes Go.WideShapes Go.ChangeAt
set_option linter.unusedVariables false

section
variable {H : Type} {enc : TypeId × Value → H} {P : Program} {W : World} {base : Nat} {spare : Nat → Bool} {held : Bool}
/-- A slice that came in, as a row of what its elements are. -/
theorem open_row {α : Type} [Inhabited α] (d : Kd α) (e t : TypeId) (ht : P.underlying t = some (.slice e)) (hc : P.cellsOf e = d.sz)
    (he : ∀ n cs x, cs.length = d.sz → DataW.trod enc P W base spare held n e cs = some x → ∃ y : α, d.K W y cs) (n : Nat) (cs : List Value) (x : DataW H × List MemPlace)
    (h : DataW.trod enc P W base spare held n t cs = some x) : ∃ l : List α, (Kd.slice e d).K W l cs := by
  rcases open_slice ht h with ⟨rfl, _⟩ | ⟨a, len, cap, m, n, D, Pl, rfl, _, hl, hm, hmm, _, hx⟩
  · exact ⟨[], none, 0, rfl, Nat.le_refl _, Kd.C_nil _ _⟩
  · have hlm : len ≤ m := by rw [hmm]; split <;> omega
    have each : ∀ i, i < len → ∃ y : α, ∃ cs' : List Value, cs'.length = d.sz ∧ d.K W y cs' ∧ ∀ k u, cs'[k]? = some u → W.cell? (a.add (i * d.sz + k)) = some u := by
      intro i hi
      obtain ⟨cs', h1, h2⟩ := hx i (by omega)
      rw [hc] at h1
      obtain ⟨_, hlen, hcell⟩ := World.cells?_some h1
      obtain ⟨y, hy⟩ := he _ _ _ hlen h2
      refine ⟨y, cs', hlen, hy, fun k u hk => ?_⟩
      have hk4 : k < d.sz := by have := (List.getElem?_eq_some_iff.1 hk).1; omega
      have e := hcell k hk4
      rw [Deep.add_add] at e
      rw [e]; exact hk
    obtain ⟨q, hq⟩ := choose_lt each
    refine ⟨(List.range len).map q, some a, cap, by simp, by simpa using hl, ⟨rfl, by unfold maxLen at hm; simp; omega, fun _ => ⟨a, rfl, fun j p hj => ?_⟩⟩⟩
    have hjl : j < len := by have := (List.getElem?_eq_some_iff.1 hj).1; simpa using this
    have hp : p = q j := by
      rw [List.getElem?_map, List.getElem?_range hjl] at hj
      exact (Option.some.inj hj).symm
    subst hp
    exact hq j hjl
end
theorem list2 {l : List Value} {v0 v1 : Value} (hl : l.length = 2) (e0 : (l.drop 0).take 1 = [v0]) (e1 : (l.drop 1).take 1 = [v1]) : l = [v0, v1] := by
  match l, hl with
  | [c0, c1], _ =>
    simp only [List.drop_zero, List.drop_succ_cons, List.take_succ_cons, List.take_zero, List.cons.injEq, and_true] at e0 e1
    rw [e0, e1]
theorem trod_float {H : Type} {enc : TypeId × Value → H} {P : Program} {w : World} {base : Nat} {spare : Nat → Bool} {held : Bool} {fuel : Nat} {t : TypeId} {cs : List Value} {x : DataW H × List MemPlace} {k : FloatKind} (ht : P.underlying t = some (.float k)) (h : DataW.trod enc P w base spare held fuel t cs = some x) : ∃ n, cs = [.float k n] ∧ (Lit.float k n).wf = true := by
  cases fuel with
  | zero => simp [DataW.trod] at h
  | succ n =>
    unfold DataW.trod at h
    rw [ht] at h
    split at h <;> simp_all
section
variable {H : Type} {enc : TypeId × Value → H} {W : World} {base : Nat} {spare : Nat → Bool} {held : Bool}
theorem pt_K (n : Nat) (cs : List Value) (x : DataW H × List MemPlace) (hl : cs.length = 2) (h : DataW.trod enc Try.prog W base spare held n 65 cs = some x) : ∃ y : Nat × Nat, kQ.K W y cs := by
  have hu : Try.prog.underlying 65 = some (.array 2 41) := by kernel_rfl
  have hu5 : Try.prog.underlying 41 = some (.float .f64) := by kernel_rfl
  have hc5 : Try.prog.cellsOf 41 = 1 := by kernel_rfl
  obtain ⟨xs, m, -, -, -, hlen, hi⟩ := DataW.trod_array hu h
  have key : ∀ i, i < 2 → ∃ x : Nat, (cs.drop i).take 1 = [.float .f64 x] := by
    intro i h8
    have h1 := hi i h8
    rw [hc5, Nat.mul_one, List.getElem?_eq_getElem (by omega)] at h1
    obtain ⟨x, e, wf⟩ := trod_float hu5 h1
    exact ⟨x, by simpa [Value.cells] using e⟩
  obtain ⟨x0, e0⟩ := key 0 (by omega)
  obtain ⟨x1, e1⟩ := key 1 (by omega)
  refine ⟨(x0, x1), ?_⟩
  have e := list2 hl e0 e1
  rw [e]
  exact ⟨[.float .f64 x0], [.float .f64 x1], rfl, rfl, rfl⟩
theorem pts_K (n : Nat) (cs : List Value) (x : DataW H × List MemPlace) (h : DataW.trod enc Try.prog W base spare held n 23 cs = some x) : ∃ l : List (Nat × Nat), kPts.K W l cs :=
  open_row kQ 65 23 Try.underlying23 (by kernel_rfl) (fun n cs x hl h => pt_K n cs x hl h) n cs x h
theorem lns_K (n : Nat) (cs : List Value) (x : DataW H × List MemPlace) (h : DataW.trod enc Try.prog W base spare held n 24 cs = some x) : ∃ l : List (List (Nat × Nat)), kLns.K W l cs :=
  open_row kPts 23 24 Try.underlying24 (by kernel_rfl) (fun n cs x _ h => pts_K n cs x h) n cs x h
theorem pls_K (n : Nat) (cs : List Value) (x : DataW H × List MemPlace) (h : DataW.trod enc Try.prog W base spare held n 25 cs = some x) : ∃ l : List (List (List (Nat × Nat))), kPls.K W l cs :=
  open_row kLns 24 25 Try.underlying25 (by kernel_rfl) (fun n cs x _ h => lns_K n cs x h) n cs x h
theorem trod_struct6 {P : Program} {t : TypeId} {f0 f1 f2 f3 f4 f5 : Field} {fuel : Nat} {cs : List Value} {x : DataW H × List MemPlace} (ht : P.underlying t = some (.struct #[f0, f1, f2, f3, f4, f5])) (h : DataW.trod enc P W base spare held fuel t cs = some x) :
    ∃ y0 y1 y2 y3 y4 y5 n, cs.length = P.cellsOf t ∧ DataW.trod enc P W base spare held n f0.type ((cs.drop f0.offset).take (P.cellsOf f0.type)) = some y0 ∧
      DataW.trod enc P W base spare held n f1.type ((cs.drop f1.offset).take (P.cellsOf f1.type)) = some y1 ∧ DataW.trod enc P W base spare held n f2.type ((cs.drop f2.offset).take (P.cellsOf f2.type)) = some y2 ∧
      DataW.trod enc P W base spare held n f3.type ((cs.drop f3.offset).take (P.cellsOf f3.type)) = some y3 ∧ DataW.trod enc P W base spare held n f4.type ((cs.drop f4.offset).take (P.cellsOf f4.type)) = some y4 ∧
      DataW.trod enc P W base spare held n f5.type ((cs.drop f5.offset).take (P.cellsOf f5.type)) = some y5 := by
  obtain ⟨xs, n, _, rfl, hl, hlen, hf⟩ := DataW.trod_struct ht h
  match xs, hlen with
  | [y0, y1, y2, y3, y4, y5], _ => exact ⟨y0, y1, y2, y3, y4, y5, n, hl, by simpa using hf 0 f0 rfl, by simpa using hf 1 f1 rfl, by simpa using hf 2 f2 rfl, by simpa using hf 3 f3 rfl, by simpa using hf 4 f4 rfl, by simpa using hf 5 f5 rfl⟩
/-- A geometry's cells: its parts' own parts are not looked at. -/
theorem geo_K (n : Nat) (cs : List Value) (x : DataW H × List MemPlace) (hl : cs.length = 6) (h : DataW.trod enc Try.prog W base spare held n 28 cs = some x) : ∃ y : GeoD, kGeo.K W y cs := by
  obtain ⟨y0, y1, y2, y3, y4, y5, m, _, h0, h1, h2, h3, h4, h5⟩ := trod_struct6 Try.underlying28 h
  have z3 : Try.prog.cellsOf 3 = 1 := by kernel_rfl
  have z22 : Try.prog.cellsOf 22 = 1 := by kernel_rfl
  have z23 : Try.prog.cellsOf 23 = 1 := by kernel_rfl
  have z24 : Try.prog.cellsOf 24 = 1 := by kernel_rfl
  have z25 : Try.prog.cellsOf 25 = 1 := by kernel_rfl
  have z26 : Try.prog.cellsOf 26 = 1 := by kernel_rfl
  match cs, hl with
  | [c0, c1, c2, c3, c4, c5], _ =>
    simp only [z3, z22, z23, z24, z25, z26, List.drop_zero, List.drop_succ_cons, List.take_succ_cons, List.take_zero] at h0 h1 h2 h3 h4 h5
    obtain ⟨a, e0, _, _⟩ := DataW.trod_int Try.underlying3 h0
    obtain ⟨b, e1, _, _⟩ := DataW.trod_int Try.underlying22 h1
    obtain ⟨l2, k2⟩ := pts_K _ _ _ h2
    obtain ⟨l3, k3⟩ := lns_K _ _ _ h3
    obtain ⟨l4, k4⟩ := pls_K _ _ _ h4
    have k5 : ∃ s : Option Addr × Nat × Nat, [c5] = [.slice s.1 s.2.1 s.2.2] := by
      rcases open_slice Try.underlying26 h5 with ⟨e, _⟩ | ⟨a, len, cap, _, _, _, _, e, _⟩
      · exact ⟨(none, 0, 0), e⟩
      · exact ⟨(some a, len, cap), e⟩
    obtain ⟨s, e5⟩ := k5
    exact ⟨⟨a, b, l2, l3, l4, s⟩, [c0], _, rfl, e0, [c1], _, rfl, e1, [c2], _, rfl, k2, [c3], _, rfl, k3, [c4], [c5], rfl, k4, e5⟩
/-- The argument, opened: its rows, and its parts'. -/
theorem open_geo {b0 : Nat} {v : Value} {d : DataW H} {p : List MemPlace} (hv : Value.okWide Try.prog W .any b0 28 v) (h : DataW.Trod enc Try.prog W base spare held 28 v d p) :
    ∃ k s A2 A3 A4 A5 c2 c3 c4 c5 l2 l3 l4 lg, v = gv k s A2 A3 A4 A5 (List.length l2) c2 (List.length l3) c3 (List.length l4) c4 (List.length lg) c5 ∧ Lays W A2 A3 A4 l2 l3 l4 ∧ kGeo.C W A5 lg.length lg := by
  obtain ⟨cs, rfl, hsz⟩ := okWide_struct Try.underlying28 hv
  obtain ⟨fuel, hf⟩ := h
  have hl : cs.toList.length = 6 := by have e : Try.prog.cellsOf 28 = 6 := by kernel_rfl
                                       rw [e] at hsz; simpa using hsz
  have hf : DataW.trod enc Try.prog W base spare held fuel 28 cs.toList = some (d, p) := hf
  obtain ⟨y0, y1, y2, y3, y4, y5, m, _, h0, h1, h2, h3, h4, h5⟩ := trod_struct6 Try.underlying28 hf
  have z3 : Try.prog.cellsOf 3 = 1 := by kernel_rfl
  have z22 : Try.prog.cellsOf 22 = 1 := by kernel_rfl
  have z23 : Try.prog.cellsOf 23 = 1 := by kernel_rfl
  have z24 : Try.prog.cellsOf 24 = 1 := by kernel_rfl
  have z25 : Try.prog.cellsOf 25 = 1 := by kernel_rfl
  have z26 : Try.prog.cellsOf 26 = 1 := by kernel_rfl
  obtain ⟨cl⟩ := cs
  match cl, hl with
  | [c0, c1, c2, c3, c4, c5], _ =>
    simp only [z3, z22, z23, z24, z25, z26, List.drop_zero, List.drop_succ_cons, List.take_succ_cons, List.take_zero] at h0 h1 h2 h3 h4 h5
    obtain ⟨a, e0, _, _⟩ := DataW.trod_int Try.underlying3 h0
    obtain ⟨b, e1, _, _⟩ := DataW.trod_int Try.underlying22 h1
    obtain ⟨l2, A2, q2, e2, _, k2⟩ := pts_K _ _ _ h2
    obtain ⟨l3, A3, q3, e3, _, k3⟩ := lns_K _ _ _ h3
    obtain ⟨l4, A4, q4, e4, _, k4⟩ := pls_K _ _ _ h4
    obtain ⟨lg, A5, q5, e5, _, k5⟩ := open_row kGeo 28 26 Try.underlying26 (by kernel_rfl) (fun n cs x hl h => geo_K n cs x hl h) _ _ _ h5
    cases e0; cases e1; cases e2; cases e3; cases e4; cases e5
    exact ⟨a, b, A2, A3, A4, A5, q2, q3, q4, q5, l2, l3, l4, lg, rfl, ⟨k2, k3, k4⟩, k5⟩
end
end Go.Proofs.Ytkcffmnccjemiaa.GD
