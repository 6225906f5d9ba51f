/-
  Contract of impl.RGUnion: two ranges with values. Condition: both have values.
-/
import Derived.Test.YtlcoodjkolponaaDoorRGg
import Derived.Outline
namespace Go.Proofs.YtlcoodjkolponaaDoor.PRG
open Go.RowKit Go.Proofs.YtlcoodjkolponaaDoorW.PrintWords Go.Proofs.YtlcoodjkolponaaDoorW.PrintLast Go.Proofs.YtlcoodjkolponaaDoorW.PrintMore
set_option linter.unusedVariables false
set_option maxRecDepth 100000

set_option maxHeartbeats 40000000 in
theorem RGUnion_no (k1 x1 k2 x2 k3 x3 k4 x4 : Int) (ha : ¬ 0 ≤ cmpC (C.of k1 x1) (C.of k2 x2)) (hc : ¬ 0 ≤ cmpC (C.of k3 x3) (C.of k4 x4)) (hq : (!decide (0 < cmpC (C.of k1 x1) (C.of k4 x4)) && decide (cmpC (C.of k3 x3) (C.of k2 x2) ≤ 0)) = false) (w : World) :
    Calls Tryd.prog 30 #[.agg #[.int .i64 k1, .int .i64 x1, .int .i64 k2, .int .i64 x2], .agg #[.int .i64 k3, .int .i64 x3, .int .i64 k4, .int .i64 x4]] w fun e w' => e = .returned (.tuple #[.agg #[.int .i64 0, .int .i64 0, .int .i64 0, .int .i64 0], .bool false, .bool true]) ∧ Below w.heap.size w w' := by
  have M : ∀ W : World, Calls Tryd.prog 68 #[.agg #[.iface (C.of k1 x1).ty (C.of k1 x1).pay, .iface (C.of k2 x2).ty (C.of k2 x2).pay, typV], .agg #[.iface (C.of k3 x3).ty (C.of k3 x3).pay, .iface (C.of k4 x4).ty (C.of k4 x4).pay, typV]] W fun e w' => e = .returned (.tuple #[.agg #[.nilIface, .nilIface, .nilIface], .bool false, .nilIface]) ∧ Below W.heap.size W w' := fun W => tryUnion_ok _ _ _ _ ha hc false hq W
  have EA := expr_ok k1 x1 k2 x2
  have EB := expr_ok k3 x3 k4 x4
  generalize C.of k1 x1 = a1 at *
  generalize C.of k2 x2 = a2 at *
  generalize C.of k3 x3 = a3 at *
  generalize C.of k4 x4 = a4 at *
  clear ha hc hq
  obtain ⟨V, hV⟩ : ∃ V : World, V = (((w.alloc (.cells #[.int .i64 k1, .int .i64 x1, .int .i64 k2, .int .i64 x2] 44)).alloc (.cells #[.int .i64 k3, .int .i64 x3, .int .i64 k4, .int .i64 x4] 44)).alloc (.cells #[.int .i64 0, .int .i64 0, .int .i64 0, .int .i64 0] 44)).alloc (.cells #[.bool false] 4) := ⟨_, rfl⟩
  have K0 : Aside0 (V.heap[w.heap.size]? = some (.cells #[.int .i64 k1, .int .i64 x1, .int .i64 k2, .int .i64 x2] 44 (0, 0))) := ⟨hV ▸ blk_alloc (blk_alloc (blk_alloc (blk_new _ _) _) _) _⟩
  have K1 : Aside0 (V.heap[w.heap.size + 1]? = some (.cells #[.int .i64 k3, .int .i64 x3, .int .i64 k4, .int .i64 x4] 44 (0, 0))) := ⟨hV ▸ blk_alloc (blk_alloc (by have h := blk_new (w.alloc (.cells #[.int .i64 k1, .int .i64 x1, .int .i64 k2, .int .i64 x2] 44)) (.cells #[.int .i64 k3, .int .i64 x3, .int .i64 k4, .int .i64 x4] 44); simpa using h) _) _⟩
  have K2 : Aside0 (V.heap[w.heap.size + 1 + 1]? = some (.cells #[.int .i64 0, .int .i64 0, .int .i64 0, .int .i64 0] 44 (0, 0))) := ⟨hV ▸ blk_alloc (by have h := blk_new ((w.alloc (.cells #[.int .i64 k1, .int .i64 x1, .int .i64 k2, .int .i64 x2] 44)).alloc (.cells #[.int .i64 k3, .int .i64 x3, .int .i64 k4, .int .i64 x4] 44)) (.cells #[.int .i64 0, .int .i64 0, .int .i64 0, .int .i64 0] 44); simpa using h) _⟩
  have K3 : Aside0 (V.heap[w.heap.size + 1 + 1 + 1]? = some (.cells #[.bool false] 4 (0, 0))) := ⟨hV ▸ (by have h := blk_new (((w.alloc (.cells #[.int .i64 k1, .int .i64 x1, .int .i64 k2, .int .i64 x2] 44)).alloc (.cells #[.int .i64 k3, .int .i64 x3, .int .i64 k4, .int .i64 x4] 44)).alloc (.cells #[.int .i64 0, .int .i64 0, .int .i64 0, .int .i64 0] 44)) (.cells #[.bool false] 4); simpa using h)⟩
  have KB : Aside0 (Below w.heap.size w V) := ⟨hV ▸ below_alloc (below_alloc (below_alloc (below_alloc (Below.refl _ _) _) _) _) _⟩
  have c00 : V.cell? ⟨w.heap.size, 0, none⟩ = some (.int .i64 k1) := (by rw [blk_cell K0.out]; rfl)
  have c01 : V.cell? ⟨w.heap.size, 1, none⟩ = some (.int .i64 x1) := (by rw [blk_cell K0.out]; rfl)
  have c02 : V.cell? ⟨w.heap.size, 2, none⟩ = some (.int .i64 k2) := (by rw [blk_cell K0.out]; rfl)
  have c03 : V.cell? ⟨w.heap.size, 3, none⟩ = some (.int .i64 x2) := (by rw [blk_cell K0.out]; rfl)
  have c10 : V.cell? ⟨w.heap.size + 1, 0, none⟩ = some (.int .i64 k3) := (by rw [blk_cell K1.out]; rfl)
  have c11 : V.cell? ⟨w.heap.size + 1, 1, none⟩ = some (.int .i64 x3) := (by rw [blk_cell K1.out]; rfl)
  have c12 : V.cell? ⟨w.heap.size + 1, 2, none⟩ = some (.int .i64 k4) := (by rw [blk_cell K1.out]; rfl)
  have c13 : V.cell? ⟨w.heap.size + 1, 3, none⟩ = some (.int .i64 x4) := (by rw [blk_cell K1.out]; rfl)
  have c20 : V.cell? ⟨w.heap.size + 1 + 1, 0, none⟩ = some (.int .i64 0) := (by rw [blk_cell K2.out]; rfl)
  have f20 : V.frozen? ⟨w.heap.size + 1 + 1, 0, none⟩ = false := (blk_frozen K2.out 0)
  have c21 : V.cell? ⟨w.heap.size + 1 + 1, 1, none⟩ = some (.int .i64 0) := (by rw [blk_cell K2.out]; rfl)
  have f21 : V.frozen? ⟨w.heap.size + 1 + 1, 1, none⟩ = false := (blk_frozen K2.out 1)
  have c22 : V.cell? ⟨w.heap.size + 1 + 1, 2, none⟩ = some (.int .i64 0) := (by rw [blk_cell K2.out]; rfl)
  have f22 : V.frozen? ⟨w.heap.size + 1 + 1, 2, none⟩ = false := (blk_frozen K2.out 2)
  have c23 : V.cell? ⟨w.heap.size + 1 + 1, 3, none⟩ = some (.int .i64 0) := (by rw [blk_cell K2.out]; rfl)
  have f23 : V.frozen? ⟨w.heap.size + 1 + 1, 3, none⟩ = false := (blk_frozen K2.out 3)
  have c30 : V.cell? ⟨w.heap.size + 1 + 1 + 1, 0, none⟩ = some (.bool false) := (by rw [blk_cell K3.out]; rfl)
  have f30 : V.frozen? ⟨w.heap.size + 1 + 1 + 1, 0, none⟩ = false := (blk_frozen K3.out 0)
  have z3 : w.heap.size + 1 + 1 + 1 < V.heap.size := blk_lt K3.out
  have z0 : w.heap.size < V.heap.size := (by omega)
  have z1 : w.heap.size + 1 < V.heap.size := (by omega)
  have z2 : w.heap.size + 1 + 1 < V.heap.size := (by omega)
  have e0 : ¬ w.heap.size = V.heap.size := (by omega)
  have e1 : ¬ w.heap.size + 1 = V.heap.size := (by omega)
  have e2 : ¬ w.heap.size + 1 + 1 = V.heap.size := (by omega)
  have e3 : ¬ w.heap.size + 1 + 1 + 1 = V.heap.size := (by omega)
  go_enter_defers Tryd.func30, Tryd.ntmps30
  go_wp2
  rw [← hV]
  clear hV
  refine wp_region_noPanic ?_
  go_region_with (first | ((first | (with_reducible refine (EA _).mono ?_) | (with_reducible refine (EB _).mono ?_) | (with_reducible refine (M _).mono ?_)); (rintro e W1 ⟨rfl, hb⟩; have B0 := blk_below (by first | exact B0 | exact blk_alloc B0 _ | exact K0.out | exact blk_alloc K0.out _) hb; have B1 := blk_below (by first | exact B1 | exact blk_alloc B1 _ | exact K1.out | exact blk_alloc K1.out _) hb; have B2 := blk_below (by first | exact B2 | exact blk_alloc B2 _ | exact K2.out | exact blk_alloc K2.out _) hb; have B3 := blk_below (by first | exact B3 | exact blk_alloc B3 _ | exact K3.out | exact blk_alloc K3.out _) hb; have HB := below_step (by first | exact HB | exact below_drew HB | exact below_alloc HB _ | exact below_drew (below_alloc HB _) | exact KB.out | exact below_drew KB.out | exact below_alloc KB.out _ | exact below_drew (below_alloc KB.out _)) hb; (try (have T7 := blk_below (by first | exact T7 | exact blk_new _ _ | exact blk_alloc T7 _) hb; have t0 := (blk_cell T7 0); have t1 := (blk_cell T7 1); have t2 := (blk_cell T7 2); have u0 := (blk_frozen T7 0); have u1 := (blk_frozen T7 1); have u2 := (blk_frozen T7 2); simp at t0 t1 t2)); clear hb; have c00 : W1.cell? ⟨w.heap.size, 0, none⟩ = some (.int .i64 k1) := (by rw [blk_cell B0]; rfl); have c01 : W1.cell? ⟨w.heap.size, 1, none⟩ = some (.int .i64 x1) := (by rw [blk_cell B0]; rfl); have c02 : W1.cell? ⟨w.heap.size, 2, none⟩ = some (.int .i64 k2) := (by rw [blk_cell B0]; rfl); have c03 : W1.cell? ⟨w.heap.size, 3, none⟩ = some (.int .i64 x2) := (by rw [blk_cell B0]; rfl); have c10 : W1.cell? ⟨w.heap.size + 1, 0, none⟩ = some (.int .i64 k3) := (by rw [blk_cell B1]; rfl); have c11 : W1.cell? ⟨w.heap.size + 1, 1, none⟩ = some (.int .i64 x3) := (by rw [blk_cell B1]; rfl); have c12 : W1.cell? ⟨w.heap.size + 1, 2, none⟩ = some (.int .i64 k4) := (by rw [blk_cell B1]; rfl); have c13 : W1.cell? ⟨w.heap.size + 1, 3, none⟩ = some (.int .i64 x4) := (by rw [blk_cell B1]; rfl); have c20 : W1.cell? ⟨w.heap.size + 1 + 1, 0, none⟩ = some (.int .i64 0) := (by rw [blk_cell B2]; rfl); have f20 : W1.frozen? ⟨w.heap.size + 1 + 1, 0, none⟩ = false := (blk_frozen B2 0); have c21 : W1.cell? ⟨w.heap.size + 1 + 1, 1, none⟩ = some (.int .i64 0) := (by rw [blk_cell B2]; rfl); have f21 : W1.frozen? ⟨w.heap.size + 1 + 1, 1, none⟩ = false := (blk_frozen B2 1); have c22 : W1.cell? ⟨w.heap.size + 1 + 1, 2, none⟩ = some (.int .i64 0) := (by rw [blk_cell B2]; rfl); have f22 : W1.frozen? ⟨w.heap.size + 1 + 1, 2, none⟩ = false := (blk_frozen B2 2); have c23 : W1.cell? ⟨w.heap.size + 1 + 1, 3, none⟩ = some (.int .i64 0) := (by rw [blk_cell B2]; rfl); have f23 : W1.frozen? ⟨w.heap.size + 1 + 1, 3, none⟩ = false := (blk_frozen B2 3); have c30 : W1.cell? ⟨w.heap.size + 1 + 1 + 1, 0, none⟩ = some (.bool false) := (by rw [blk_cell B3]; rfl); have f30 : W1.frozen? ⟨w.heap.size + 1 + 1 + 1, 0, none⟩ = false := (blk_frozen B3 0); have z3 : w.heap.size + 1 + 1 + 1 < W1.heap.size := blk_lt B3; have z0 : w.heap.size < W1.heap.size := (by omega); have z1 : w.heap.size + 1 < W1.heap.size := (by omega); have z2 : w.heap.size + 1 + 1 < W1.heap.size := (by omega); have e0 : ¬ w.heap.size = W1.heap.size := (by omega); have e1 : ¬ w.heap.size + 1 = W1.heap.size := (by omega); have e2 : ¬ w.heap.size + 1 + 1 = W1.heap.size := (by omega); have e3 : ¬ w.heap.size + 1 + 1 + 1 = W1.heap.size := (by omega))))
  all_goals refine NoPanic.normal ?_
  all_goals (go_wp2)
  all_goals (go_region)
  all_goals (go_wp2)
  all_goals (refine ends_caught (v := .tuple #[.agg #[.int .i64 0, .int .i64 0, .int .i64 0, .int .i64 0], .bool false, .bool true]) ?_ ⟨rfl, ?_⟩)
  all_goals first
    | (simp [results, Tryd.results30, go_sem, c20, c21, c22, c23, c30]; done)
    | (simp only [results, Tryd.results30]; go_simp; done)
    | (simp [results, Tryd.results30, go_sem, *]; done)
    | ((repeat (first | (with_reducible exact HB) | (with_reducible apply below_drew) | (with_reducible refine below_alloc ?_ _) | (refine Below.setCell ?_ (by first | (simp; done) | exact Nat.le_of_lt (by assumption) | (simp <;> omega)) _))); done)
end Go.Proofs.YtlcoodjkolponaaDoor.PRG
