/-
  Contract of geRect: a polygon of one line of five points. Condition: the sums are given.
-/
import Derived.Test.YtjhgmpeoagndjaaGreatGWu
namespace Go.Proofs.YtjhgmpeoagndjaaGreat.GE
open Go.RowKit Go.Proofs.YtjhgmpeoagndjaaGreatW.PrintWords Go.Proofs.YtjhgmpeoagndjaaGreatW.PrintLast Go.Proofs.YtjhgmpeoagndjaaGreatW.PrintMore
open Go.Proofs.YtjhgmpeoagndjaaGreat.Flo
set_option linter.unusedVariables false
set_option linter.unusedSimpArgs false
set_option maxRecDepth 100000
set_option maxHeartbeats 4000000

theorem cells_Q {w : World} {g : Nat} (x y : Nat) (o : Nat) (h1 : w.cell? ⟨g, o, none⟩ = some (.float .f64 x)) (h2 : w.cell? ⟨g, o + 1, none⟩ = some (.float .f64 y)) : ∃ c : List Value, c.length = kQ.sz ∧ kQ.K w (x, y) c ∧ ∀ i u, c[i]? = some u → w.cell? ((⟨g, 0, none⟩ : Addr).add (o + i)) = some u := by
  refine ⟨[.float .f64 x, .float .f64 y], rfl, ⟨[.float .f64 x], [.float .f64 y], rfl, rfl, rfl⟩, fun i u hu => ?_⟩
  have ha : (⟨g, 0, none⟩ : Addr).add (o + i) = ⟨g, o + i, none⟩ := by unfold Addr.add; simp; try omega
  rw [ha]
  match i, hu with
  | 0, hu => cases hu; exact h1
  | 1, hu => cases hu; exact h2
theorem one_Q {w : World} {g : Nat} {a0 b0 : Nat} (h : w.heap[g]? = some (.cells #[.float .f64 a0, .float .f64 b0] 24 (0, 0))) : kQ.C w (some ⟨g, 0, none⟩) 1 [(a0, b0)] := by
  have hc : ∀ j, w.cell? ⟨g, j, none⟩ = (#[.float .f64 a0, .float .f64 b0] : Array Value)[j]? := fun j => Lib.cell_of_heap h j
  refine ⟨rfl, by decide, fun _ => ⟨_, rfl, fun j p hp => ?_⟩⟩
  match j, hp with
  | 0, hp => cases hp; exact cells_Q a0 b0 0 (hc 0) (hc 1)
theorem two_Q {w : World} {g : Nat} {a0 b0 a1 b1 : Nat} (h : w.heap[g]? = some (.cells #[.float .f64 a0, .float .f64 b0, .float .f64 a1, .float .f64 b1] 24 (0, 0))) : kQ.C w (some ⟨g, 0, none⟩) 2 [(a0, b0), (a1, b1)] := by
  have hc : ∀ j, w.cell? ⟨g, j, none⟩ = (#[.float .f64 a0, .float .f64 b0, .float .f64 a1, .float .f64 b1] : Array Value)[j]? := fun j => Lib.cell_of_heap h j
  refine ⟨rfl, by decide, fun _ => ⟨_, rfl, fun j p hp => ?_⟩⟩
  match j, hp with
  | 0, hp => cases hp; exact cells_Q a0 b0 0 (hc 0) (hc 1)
  | 1, hp => cases hp; exact cells_Q a1 b1 2 (hc 2) (hc 3)
theorem five_Q {w : World} {g : Nat} {a0 b0 a1 b1 a2 b2 a3 b3 a4 b4 : Nat} (h : w.heap[g]? = some (.cells #[.float .f64 a0, .float .f64 b0, .float .f64 a1, .float .f64 b1, .float .f64 a2, .float .f64 b2, .float .f64 a3, .float .f64 b3, .float .f64 a4, .float .f64 b4] 24 (0, 0))) : kQ.C w (some ⟨g, 0, none⟩) 5 [(a0, b0), (a1, b1), (a2, b2), (a3, b3), (a4, b4)] := by
  have hc : ∀ j, w.cell? ⟨g, j, none⟩ = (#[.float .f64 a0, .float .f64 b0, .float .f64 a1, .float .f64 b1, .float .f64 a2, .float .f64 b2, .float .f64 a3, .float .f64 b3, .float .f64 a4, .float .f64 b4] : Array Value)[j]? := fun j => Lib.cell_of_heap h j
  refine ⟨rfl, by decide, fun _ => ⟨_, rfl, fun j p hp => ?_⟩⟩
  match j, hp with
  | 0, hp => cases hp; exact cells_Q a0 b0 0 (hc 0) (hc 1)
  | 1, hp => cases hp; exact cells_Q a1 b1 2 (hc 2) (hc 3)
  | 2, hp => cases hp; exact cells_Q a2 b2 4 (hc 4) (hc 5)
  | 3, hp => cases hp; exact cells_Q a3 b3 6 (hc 6) (hc 7)
  | 4, hp => cases hp; exact cells_Q a4 b4 8 (hc 8) (hc 9)

abbrev boS (gA : Nat) : Obj := .cells #[.slice (some ⟨gA, 0, none⟩) 5 5] 26 (0, 0)
abbrev boA (a0 a1 r1 r2 : Nat) : Obj := .cells #[.float .f64 a0, .float .f64 a1, .float .f64 r1, .float .f64 a1, .float .f64 r1, .float .f64 r2, .float .f64 a0, .float .f64 r2, .float .f64 a0, .float .f64 a1] 24 (0, 0)
/-- The corners' words. -/
def recW (a0 a1 r1 r2 : Nat) : List (Nat × Nat) := [(a0, a1), (r1, a1), (r1, r2), (a0, r2), (a0, a1)]
theorem rect_ok (a0 a1 b0 b1 r1 r2 : Nat) (h1 : ∀ W, (binOp .add 22 (.float .f64 a0) (.float .f64 b0)).run Tryz.prog W = .ok (.float .f64 r1) W) (h2 : ∀ W, (binOp .add 22 (.float .f64 a1) (.float .f64 b1)).run Tryz.prog W = .ok (.float .f64 r2) W) (w : World) :
    Calls Tryz.prog 5 #[.float .f64 a0, .float .f64 a1, .float .f64 b0, .float .f64 b1] w fun e w' => ∃ g gA, e = .returned (geoR g 1) ∧ w'.heap[g]? = some (boS gA) ∧ w'.heap[gA]? = some (boA a0 a1 r1 r2) ∧ Below w.heap.size w w' := by
  go_enter Tryz.func5, Tryz.ntmps5
  go_wp2
  have hb := Below.refl (((w.alloc (boR (w.heap.size + 1 + 1) 1)).alloc (.cells #[.float .f64 a0, .float .f64 a1, .float .f64 r1, .float .f64 a1, .float .f64 r1, .float .f64 r2, .float .f64 a0, .float .f64 r2, .float .f64 a0, .float .f64 a1] 24)).alloc (.cells #[.slice (some ⟨w.heap.size + 1, 0, none⟩) 5 5] 26)).heap.size (((w.alloc (boR (w.heap.size + 1 + 1) 1)).alloc (.cells #[.float .f64 a0, .float .f64 a1, .float .f64 r1, .float .f64 a1, .float .f64 r1, .float .f64 r2, .float .f64 a0, .float .f64 r2, .float .f64 a0, .float .f64 a1] 24)).alloc (.cells #[.slice (some ⟨w.heap.size + 1, 0, none⟩) 5 5] 26))
  obtain ⟨f1, f2, f3, hB⟩ := three hb
  clear hb
  generalize ((w.alloc (boR (w.heap.size + 1 + 1) 1)).alloc (.cells #[.float .f64 a0, .float .f64 a1, .float .f64 r1, .float .f64 a1, .float .f64 r1, .float .f64 r2, .float .f64 a0, .float .f64 r2, .float .f64 a0, .float .f64 a1] 24)).alloc (.cells #[.slice (some ⟨w.heap.size + 1, 0, none⟩) 5 5] 26) = V at *
  refine bodyPost_ret (results_cell_row rfl _ _ w.heap.size 32 #[.int .i64 3, .int .u32 0, .slice none 0 0, .slice (some ⟨w.heap.size + 1 + 1, 0, none⟩) 1 1, .slice none 0 0, .slice none 0 0] (0, 0) _ rfl f1 Tryz.underlying32 rfl (by kernel_rfl)) rfl ?_
  exact ⟨_, _, rfl, f3, f2, hB⟩
end Go.Proofs.YtjhgmpeoagndjaaGreat.GE
