/-
  An argument of two floats, opened. No condition.
-/
import Derived.Test.YtjhgmpeoagndjaaGreatRows
import Derived.WalkKit
import Derived.ProofKit
import Derived.OpenShut
set_option maxRecDepth 100000
namespace Go.Proofs.YtjhgmpeoagndjaaGreat.GWy
open Go.ChangeShapes Go.WideShapes Go.ChangeAt Go.RowKit
theorem u8_nat {u : Int} (h : (Lit.int .u8 u).wf = true) : ∃ n : Nat, u = (n : Int) ∧ n ≤ 255 := by
  have h2 : 0 ≤ u ∧ u ≤ 255 := by
    simp only [Lit.wf, Bool.and_eq_true, decide_eq_true_eq] at h
    have h1 : IntKind.u8.min = 0 := by decide
    have h2 : IntKind.u8.max = 255 := by decide
    omega
  exact ⟨u.toNat, by omega, by omega⟩
theorem list2 {l : List Value} {v0 v1 : Value} (hl : l.length = 2) (e0 : (l.drop 0).take 1 = [v0]) (e1 : (l.drop 1).take 1 = [v1]) : l = [v0, v1] := by
  match l, hl with
  | [c0, c1], _ =>
    simp only [List.drop_zero, List.drop_succ_cons, List.take_succ_cons, List.take_zero, List.cons.injEq, and_true] at e0 e1
    rw [e0, e1]
theorem trod_float {H : Type} {enc : TypeId × Value → H} {P : Program} {w : World} {base : Nat} {spare : Nat → Bool} {held : Bool} {fuel : Nat} {t : TypeId} {cs : List Value} {x : DataW H × List MemPlace} {k : FloatKind} (ht : P.underlying t = some (.float k)) (h : DataW.trod enc P w base spare held fuel t cs = some x) : ∃ n, cs = [.float k n] ∧ (Lit.float k n).wf = true := by
  cases fuel with
  | zero => simp [DataW.trod] at h
  | succ n =>
    unfold DataW.trod at h
    rw [ht] at h
    split at h <;> simp_all
theorem open_pt {H : Type} {enc : TypeId × Value → H} {w : World} {base b0 : Nat} {spare : Nat → Bool} {held : Bool} {v : Value} {d : DataW H} {p : List MemPlace}
    (hv : Value.okWide Tryz.prog w .any b0 24 v) (h : DataW.Trod enc Tryz.prog w base spare held 24 v d p) :
    ∃ x0 x1 : Nat, v = .agg #[.float .f64 x0, .float .f64 x1] ∧ x0 < 18446744073709551616 ∧ x1 < 18446744073709551616 := by
  have hu : Tryz.prog.underlying 24 = some (.array 2 22) := by kernel_rfl
  have hu5 : Tryz.prog.underlying 22 = some (.float .f64) := by kernel_rfl
  have hc5 : Tryz.prog.cellsOf 22 = 1 := by kernel_rfl
  have hc33 : Tryz.prog.cellsOf 24 = 2 := by kernel_rfl
  simp only [Value.okWide, hu] at hv
  obtain ⟨cs, rfl, hsz, -⟩ := hv
  rw [hc33] at hsz
  obtain ⟨fuel, hf⟩ := h
  obtain ⟨xs, m, -, -, -, hlen, hi⟩ := DataW.trod_array hu hf
  have key : ∀ i, i < 2 → ∃ x : Nat, (cs.toList.drop i).take 1 = [.float .f64 x] ∧ x < 18446744073709551616 := by
    intro i h8
    have h1 := hi i h8
    rw [hc5, Nat.mul_one, List.getElem?_eq_getElem (by omega)] at h1
    obtain ⟨x, e, wf⟩ := trod_float hu5 h1
    exact ⟨x, by simpa [Value.cells] using e, by simpa [Lit.wf] using wf⟩
  obtain ⟨l⟩ := cs
  have hl : l.length = 2 := by simpa using hsz
  obtain ⟨x0, e0, b0⟩ := key 0 (by omega)
  obtain ⟨x1, e1, b1⟩ := key 1 (by omega)
  refine ⟨x0, x1, ?_, b0, b1⟩
  have e := list2 hl e0 e1
  rw [e]
end Go.Proofs.YtjhgmpeoagndjaaGreat.GWy
