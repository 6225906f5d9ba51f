/-
  Contracts of impl's functions over a pair of ranges of one column (RGEquals, RGSubset, RGSuperset, RGConnected, RGEmpty). No condition.
-/
import Derived.Test.YtlcoodjkolponaaDoorRGb
namespace Go.Proofs.YtlcoodjkolponaaDoor.PRG
open Go.RowKit Go.Proofs.YtlcoodjkolponaaDoorW.PrintWords Go.Proofs.YtlcoodjkolponaaDoorW.PrintLast Go.Proofs.YtlcoodjkolponaaDoorW.PrintMore
set_option linter.unusedVariables false
set_option maxRecDepth 100000

set_option maxHeartbeats 1000000 in
theorem expr_ok (k1 x1 k2 x2 : Int) (w : World) :
    Calls Tryd.prog 59 #[.agg #[.int .i64 k1, .int .i64 x1, .int .i64 k2, .int .i64 x2]] w fun e w' => e = .returned (.agg #[.iface (C.of k1 x1).ty (C.of k1 x1).pay, .iface (C.of k2 x2).ty (C.of k2 x2).pay, typV]) ∧ Below w.heap.size w w' := by
  go_enter Tryd.func59, Tryd.ntmps59
  go_wp2
  go_region_held3 (fun W => W.cell? ⟨w.heap.size, 0, none⟩ = some (.int .i64 k1) ∧ W.cell? ⟨w.heap.size, 1, none⟩ = some (.int .i64 x1) ∧ W.cell? ⟨w.heap.size, 2, none⟩ = some (.int .i64 k2) ∧ W.cell? ⟨w.heap.size, 3, none⟩ = some (.int .i64 x2) ∧ Below w.heap.size w W)
    (first | (go_split_ands; refine ⟨?_, ?_, ?_, ?_, ?_⟩ <;> assumption) | (go_split_ands; exact ⟨pw_cell_below hb (by assumption), pw_cell_below hb (by assumption), pw_cell_below hb (by assumption), pw_cell_below hb (by assumption), below_step (by assumption) hb⟩) | ((try go_split_ands); refine ⟨?_, ?_, ?_, ?_, ?_⟩; (iterate 4 (focus (first | assumption | (simp [go_sem]; done) | (simp [go_sem, *]; done) | (refine peek_some ?_; simp [go_sem]; done) | (refine peek_some ?_; simp [go_sem, *]; done)))); (repeat (first | assumption | (with_reducible exact Below.refl _ _) | (with_reducible apply below_alloc) | (with_reducible apply below_drew) | (refine Below.setCell ?_ (by simp) _)))))
    (first | (go_at_call 48; refine (cut_ok _ _ _).mono ?_; rintro e W1 ⟨rfl, hb⟩; have d0 : W1.cell? ⟨w.heap.size + 1, 0, none⟩ = some .nilIface := (pw_cell_below hb (by first | assumption | (simp [go_sem]; done))); have d1 : W1.cell? ⟨w.heap.size + 1, 1, none⟩ = some .nilIface := (pw_cell_below hb (by first | assumption | (simp [go_sem]; done))); have d2 : W1.cell? ⟨w.heap.size + 1, 2, none⟩ = some .nilIface := (pw_cell_below hb (by first | assumption | (simp [go_sem]; done))); have f0 : W1.frozen? ⟨w.heap.size + 1, 0, none⟩ = false := (keep_frozen (v := .nilIface) hb (by first | assumption | (simp [go_sem]; done)) (by first | assumption | (simp [go_sem]; done))); have f1 : W1.frozen? ⟨w.heap.size + 1, 1, none⟩ = false := (keep_frozen (v := .nilIface) hb (by first | assumption | (simp [go_sem]; done)) (by first | assumption | (simp [go_sem]; done))); have f2 : W1.frozen? ⟨w.heap.size + 1, 2, none⟩ = false := (keep_frozen (v := .nilIface) hb (by first | assumption | (simp [go_sem]; done)) (by first | assumption | (simp [go_sem]; done)))))
  all_goals have hB := (by assumption : _ ∧ _ ∧ _ ∧ _ ∧ Below w.heap.size w _).2.2.2.2
  all_goals go_wp2
  all_goals exact bodyPost_ret (v := .agg #[.iface (C.of k1 x1).ty (C.of k1 x1).pay, .iface (C.of k2 x2).ty (C.of k2 x2).pay, typV]) (by simp [results, Tryd.results59, go_sem, d0, d1, d2, typV]) rfl ⟨rfl, hB⟩

set_option maxHeartbeats 4000000 in
theorem RGEquals_ok (k1 x1 k2 x2 k3 x3 k4 x4 : Int) (q : Bool) (hq : (cmpC (C.of k1 x1) (C.of k3 x3) == 0 && cmpC (C.of k2 x2) (C.of k4 x4) == 0) = q) (w : World) :
    Calls Tryd.prog 22 #[.agg #[.int .i64 k1, .int .i64 x1, .int .i64 k2, .int .i64 x2], .agg #[.int .i64 k3, .int .i64 x3, .int .i64 k4, .int .i64 x4]] w fun e w' => e = .returned (.tuple #[.bool q, .bool true]) ∧ Below w.heap.size w w' := by
  have M : ∀ W : World, Calls Tryd.prog 60 #[.agg #[.iface (C.of k1 x1).ty (C.of k1 x1).pay, .iface (C.of k2 x2).ty (C.of k2 x2).pay, typV], .agg #[.iface (C.of k3 x3).ty (C.of k3 x3).pay, .iface (C.of k4 x4).ty (C.of k4 x4).pay, typV]] W fun e w' => e = .returned (.tuple #[.bool q, .nilIface]) ∧ Below W.heap.size W w' := fun W => hq ▸ equals_ok (C.of k1 x1) (C.of k2 x2) (C.of k3 x3) (C.of k4 x4) W
  clear hq
  cases q
  all_goals
    go_enter_defers Tryd.func22, Tryd.ntmps22
    go_wp2
    go_region_held3 (fun W => W.cell? ⟨w.heap.size, 0, none⟩ = some (.int .i64 k1) ∧ W.cell? ⟨w.heap.size, 1, none⟩ = some (.int .i64 x1) ∧ W.cell? ⟨w.heap.size, 2, none⟩ = some (.int .i64 k2) ∧ W.cell? ⟨w.heap.size, 3, none⟩ = some (.int .i64 x2) ∧ W.cell? ⟨w.heap.size + 1, 0, none⟩ = some (.int .i64 k3) ∧ W.cell? ⟨w.heap.size + 1, 1, none⟩ = some (.int .i64 x3) ∧ W.cell? ⟨w.heap.size + 1, 2, none⟩ = some (.int .i64 k4) ∧ W.cell? ⟨w.heap.size + 1, 3, none⟩ = some (.int .i64 x4) ∧ W.cell? ⟨w.heap.size + 1 + 1, 0, none⟩ = some (.bool false) ∧ W.frozen? ⟨w.heap.size + 1 + 1, 0, none⟩ = false ∧ Below w.heap.size w W)
      (first | (go_split_ands; refine ⟨?_, ?_, ?_, ?_, ?_, ?_, ?_, ?_, ?_, ?_, ?_⟩ <;> assumption) | (go_split_ands; exact ⟨pw_cell_below hb (by assumption), pw_cell_below hb (by assumption), pw_cell_below hb (by assumption), pw_cell_below hb (by assumption), pw_cell_below hb (by assumption), pw_cell_below hb (by assumption), pw_cell_below hb (by assumption), pw_cell_below hb (by assumption), pw_cell_below hb (by assumption), keep_frozen hb (by assumption) (by assumption), below_step (by assumption) hb⟩) | (refine ⟨?_, ?_, ?_, ?_, ?_, ?_, ?_, ?_, ?_, ?_, ?_⟩; (iterate 10 (focus (simp [go_sem]; done))); repeat (first | (with_reducible exact Below.refl _ _) | (with_reducible apply below_alloc) | (with_reducible apply below_drew))))
      (first | (go_at_call 59; refine (expr_ok _ _ _ _ _).mono ?_; rintro e w1 ⟨rfl, hb⟩) | ((with_reducible refine (M _).mono ?_); rintro e w3 ⟨rfl, hb⟩))
  all_goals go_wp2
  all_goals
    obtain ⟨-, -, -, -, -, -, -, -, hc, hz, hB⟩ := (by assumption : w3.cell? ⟨w.heap.size, 0, none⟩ = some (.int .i64 k1) ∧ w3.cell? ⟨w.heap.size, 1, none⟩ = some (.int .i64 x1) ∧ w3.cell? ⟨w.heap.size, 2, none⟩ = some (.int .i64 k2) ∧ w3.cell? ⟨w.heap.size, 3, none⟩ = some (.int .i64 x2) ∧ w3.cell? ⟨w.heap.size + 1, 0, none⟩ = some (.int .i64 k3) ∧ w3.cell? ⟨w.heap.size + 1, 1, none⟩ = some (.int .i64 x3) ∧ w3.cell? ⟨w.heap.size + 1, 2, none⟩ = some (.int .i64 k4) ∧ w3.cell? ⟨w.heap.size + 1, 3, none⟩ = some (.int .i64 x4) ∧ w3.cell? ⟨w.heap.size + 1 + 1, 0, none⟩ = some (.bool false) ∧ w3.frozen? ⟨w.heap.size + 1 + 1, 0, none⟩ = false ∧ Below w.heap.size w w3)
    go_region
  all_goals go_wp2
  all_goals first
    | exact ends_caught (v := .tuple #[.bool false, .bool true]) (by simp [results, Tryd.results22, go_sem, hc]) ⟨rfl, below_drew (hB.setCell (by simp; omega) _)⟩
    | exact ends_caught (v := .tuple #[.bool true, .bool true]) (by simp [results, Tryd.results22, go_sem, hc]) ⟨rfl, below_drew (hB.setCell (by simp; omega) _)⟩

set_option maxHeartbeats 4000000 in
theorem RGSubset_ok (k1 x1 k2 x2 k3 x3 k4 x4 : Int) (q : Bool) (hq : (!(cmpC (C.of k1 x1) (C.of k3 x3) == -1) && !(cmpC (C.of k2 x2) (C.of k4 x4) == 1)) = q) (w : World) :
    Calls Tryd.prog 23 #[.agg #[.int .i64 k1, .int .i64 x1, .int .i64 k2, .int .i64 x2], .agg #[.int .i64 k3, .int .i64 x3, .int .i64 k4, .int .i64 x4]] w fun e w' => e = .returned (.tuple #[.bool q, .bool true]) ∧ Below w.heap.size w w' := by
  have M : ∀ W : World, Calls Tryd.prog 61 #[.agg #[.iface (C.of k1 x1).ty (C.of k1 x1).pay, .iface (C.of k2 x2).ty (C.of k2 x2).pay, typV], .agg #[.iface (C.of k3 x3).ty (C.of k3 x3).pay, .iface (C.of k4 x4).ty (C.of k4 x4).pay, typV]] W fun e w' => e = .returned (.tuple #[.bool q, .nilIface]) ∧ Below W.heap.size W w' := fun W => hq ▸ isSubsetOf_ok (C.of k1 x1) (C.of k2 x2) (C.of k3 x3) (C.of k4 x4) W
  clear hq
  cases q
  all_goals
    go_enter_defers Tryd.func23, Tryd.ntmps23
    go_wp2
    go_region_held3 (fun W => W.cell? ⟨w.heap.size, 0, none⟩ = some (.int .i64 k1) ∧ W.cell? ⟨w.heap.size, 1, none⟩ = some (.int .i64 x1) ∧ W.cell? ⟨w.heap.size, 2, none⟩ = some (.int .i64 k2) ∧ W.cell? ⟨w.heap.size, 3, none⟩ = some (.int .i64 x2) ∧ W.cell? ⟨w.heap.size + 1, 0, none⟩ = some (.int .i64 k3) ∧ W.cell? ⟨w.heap.size + 1, 1, none⟩ = some (.int .i64 x3) ∧ W.cell? ⟨w.heap.size + 1, 2, none⟩ = some (.int .i64 k4) ∧ W.cell? ⟨w.heap.size + 1, 3, none⟩ = some (.int .i64 x4) ∧ W.cell? ⟨w.heap.size + 1 + 1, 0, none⟩ = some (.bool false) ∧ W.frozen? ⟨w.heap.size + 1 + 1, 0, none⟩ = false ∧ Below w.heap.size w W)
      (first | (go_split_ands; refine ⟨?_, ?_, ?_, ?_, ?_, ?_, ?_, ?_, ?_, ?_, ?_⟩ <;> assumption) | (go_split_ands; exact ⟨pw_cell_below hb (by assumption), pw_cell_below hb (by assumption), pw_cell_below hb (by assumption), pw_cell_below hb (by assumption), pw_cell_below hb (by assumption), pw_cell_below hb (by assumption), pw_cell_below hb (by assumption), pw_cell_below hb (by assumption), pw_cell_below hb (by assumption), keep_frozen hb (by assumption) (by assumption), below_step (by assumption) hb⟩) | (refine ⟨?_, ?_, ?_, ?_, ?_, ?_, ?_, ?_, ?_, ?_, ?_⟩; (iterate 10 (focus (simp [go_sem]; done))); repeat (first | (with_reducible exact Below.refl _ _) | (with_reducible apply below_alloc) | (with_reducible apply below_drew))))
      (first | (go_at_call 59; refine (expr_ok _ _ _ _ _).mono ?_; rintro e w1 ⟨rfl, hb⟩) | ((with_reducible refine (M _).mono ?_); rintro e w3 ⟨rfl, hb⟩))
  all_goals go_wp2
  all_goals
    obtain ⟨-, -, -, -, -, -, -, -, hc, hz, hB⟩ := (by assumption : w3.cell? ⟨w.heap.size, 0, none⟩ = some (.int .i64 k1) ∧ w3.cell? ⟨w.heap.size, 1, none⟩ = some (.int .i64 x1) ∧ w3.cell? ⟨w.heap.size, 2, none⟩ = some (.int .i64 k2) ∧ w3.cell? ⟨w.heap.size, 3, none⟩ = some (.int .i64 x2) ∧ w3.cell? ⟨w.heap.size + 1, 0, none⟩ = some (.int .i64 k3) ∧ w3.cell? ⟨w.heap.size + 1, 1, none⟩ = some (.int .i64 x3) ∧ w3.cell? ⟨w.heap.size + 1, 2, none⟩ = some (.int .i64 k4) ∧ w3.cell? ⟨w.heap.size + 1, 3, none⟩ = some (.int .i64 x4) ∧ w3.cell? ⟨w.heap.size + 1 + 1, 0, none⟩ = some (.bool false) ∧ w3.frozen? ⟨w.heap.size + 1 + 1, 0, none⟩ = false ∧ Below w.heap.size w w3)
    go_region
  all_goals go_wp2
  all_goals first
    | exact ends_caught (v := .tuple #[.bool false, .bool true]) (by simp [results, Tryd.results23, go_sem, hc]) ⟨rfl, below_drew (hB.setCell (by simp; omega) _)⟩
    | exact ends_caught (v := .tuple #[.bool true, .bool true]) (by simp [results, Tryd.results23, go_sem, hc]) ⟨rfl, below_drew (hB.setCell (by simp; omega) _)⟩

set_option maxHeartbeats 4000000 in
theorem RGSuperset_ok (k1 x1 k2 x2 k3 x3 k4 x4 : Int) (q : Bool) (hq : (!(cmpC (C.of k3 x3) (C.of k1 x1) == -1) && !(cmpC (C.of k4 x4) (C.of k2 x2) == 1)) = q) (w : World) :
    Calls Tryd.prog 24 #[.agg #[.int .i64 k1, .int .i64 x1, .int .i64 k2, .int .i64 x2], .agg #[.int .i64 k3, .int .i64 x3, .int .i64 k4, .int .i64 x4]] w fun e w' => e = .returned (.tuple #[.bool q, .bool true]) ∧ Below w.heap.size w w' := by
  have M : ∀ W : World, Calls Tryd.prog 62 #[.agg #[.iface (C.of k1 x1).ty (C.of k1 x1).pay, .iface (C.of k2 x2).ty (C.of k2 x2).pay, typV], .agg #[.iface (C.of k3 x3).ty (C.of k3 x3).pay, .iface (C.of k4 x4).ty (C.of k4 x4).pay, typV]] W fun e w' => e = .returned (.tuple #[.bool q, .nilIface]) ∧ Below W.heap.size W w' := fun W => hq ▸ isSupersetOf_ok (C.of k1 x1) (C.of k2 x2) (C.of k3 x3) (C.of k4 x4) W
  clear hq
  cases q
  all_goals
    go_enter_defers Tryd.func24, Tryd.ntmps24
    go_wp2
    go_region_held3 (fun W => W.cell? ⟨w.heap.size, 0, none⟩ = some (.int .i64 k1) ∧ W.cell? ⟨w.heap.size, 1, none⟩ = some (.int .i64 x1) ∧ W.cell? ⟨w.heap.size, 2, none⟩ = some (.int .i64 k2) ∧ W.cell? ⟨w.heap.size, 3, none⟩ = some (.int .i64 x2) ∧ W.cell? ⟨w.heap.size + 1, 0, none⟩ = some (.int .i64 k3) ∧ W.cell? ⟨w.heap.size + 1, 1, none⟩ = some (.int .i64 x3) ∧ W.cell? ⟨w.heap.size + 1, 2, none⟩ = some (.int .i64 k4) ∧ W.cell? ⟨w.heap.size + 1, 3, none⟩ = some (.int .i64 x4) ∧ W.cell? ⟨w.heap.size + 1 + 1, 0, none⟩ = some (.bool false) ∧ W.frozen? ⟨w.heap.size + 1 + 1, 0, none⟩ = false ∧ Below w.heap.size w W)
      (first | (go_split_ands; refine ⟨?_, ?_, ?_, ?_, ?_, ?_, ?_, ?_, ?_, ?_, ?_⟩ <;> assumption) | (go_split_ands; exact ⟨pw_cell_below hb (by assumption), pw_cell_below hb (by assumption), pw_cell_below hb (by assumption), pw_cell_below hb (by assumption), pw_cell_below hb (by assumption), pw_cell_below hb (by assumption), pw_cell_below hb (by assumption), pw_cell_below hb (by assumption), pw_cell_below hb (by assumption), keep_frozen hb (by assumption) (by assumption), below_step (by assumption) hb⟩) | (refine ⟨?_, ?_, ?_, ?_, ?_, ?_, ?_, ?_, ?_, ?_, ?_⟩; (iterate 10 (focus (simp [go_sem]; done))); repeat (first | (with_reducible exact Below.refl _ _) | (with_reducible apply below_alloc) | (with_reducible apply below_drew))))
      (first | (go_at_call 59; refine (expr_ok _ _ _ _ _).mono ?_; rintro e w1 ⟨rfl, hb⟩) | ((with_reducible refine (M _).mono ?_); rintro e w3 ⟨rfl, hb⟩))
  all_goals go_wp2
  all_goals
    obtain ⟨-, -, -, -, -, -, -, -, hc, hz, hB⟩ := (by assumption : w3.cell? ⟨w.heap.size, 0, none⟩ = some (.int .i64 k1) ∧ w3.cell? ⟨w.heap.size, 1, none⟩ = some (.int .i64 x1) ∧ w3.cell? ⟨w.heap.size, 2, none⟩ = some (.int .i64 k2) ∧ w3.cell? ⟨w.heap.size, 3, none⟩ = some (.int .i64 x2) ∧ w3.cell? ⟨w.heap.size + 1, 0, none⟩ = some (.int .i64 k3) ∧ w3.cell? ⟨w.heap.size + 1, 1, none⟩ = some (.int .i64 x3) ∧ w3.cell? ⟨w.heap.size + 1, 2, none⟩ = some (.int .i64 k4) ∧ w3.cell? ⟨w.heap.size + 1, 3, none⟩ = some (.int .i64 x4) ∧ w3.cell? ⟨w.heap.size + 1 + 1, 0, none⟩ = some (.bool false) ∧ w3.frozen? ⟨w.heap.size + 1 + 1, 0, none⟩ = false ∧ Below w.heap.size w w3)
    go_region
  all_goals go_wp2
  all_goals first
    | exact ends_caught (v := .tuple #[.bool false, .bool true]) (by simp [results, Tryd.results24, go_sem, hc]) ⟨rfl, below_drew (hB.setCell (by simp; omega) _)⟩
    | exact ends_caught (v := .tuple #[.bool true, .bool true]) (by simp [results, Tryd.results24, go_sem, hc]) ⟨rfl, below_drew (hB.setCell (by simp; omega) _)⟩

set_option maxHeartbeats 4000000 in
theorem RGConnected_ok (k1 x1 k2 x2 k3 x3 k4 x4 : Int) (q : Bool) (hq : (!decide (0 < cmpC (C.of k1 x1) (C.of k4 x4)) && decide (cmpC (C.of k3 x3) (C.of k2 x2) ≤ 0)) = q) (w : World) :
    Calls Tryd.prog 25 #[.agg #[.int .i64 k1, .int .i64 x1, .int .i64 k2, .int .i64 x2], .agg #[.int .i64 k3, .int .i64 x3, .int .i64 k4, .int .i64 x4]] w fun e w' => e = .returned (.tuple #[.bool q, .bool true]) ∧ Below w.heap.size w w' := by
  have M : ∀ W : World, Calls Tryd.prog 63 #[.agg #[.iface (C.of k1 x1).ty (C.of k1 x1).pay, .iface (C.of k2 x2).ty (C.of k2 x2).pay, typV], .agg #[.iface (C.of k3 x3).ty (C.of k3 x3).pay, .iface (C.of k4 x4).ty (C.of k4 x4).pay, typV]] W fun e w' => e = .returned (.tuple #[.bool q, .nilIface]) ∧ Below W.heap.size W w' := fun W => hq ▸ isConnected_ok (C.of k1 x1) (C.of k2 x2) (C.of k3 x3) (C.of k4 x4) W
  clear hq
  cases q
  all_goals
    go_enter_defers Tryd.func25, Tryd.ntmps25
    go_wp2
    go_region_held3 (fun W => W.cell? ⟨w.heap.size, 0, none⟩ = some (.int .i64 k1) ∧ W.cell? ⟨w.heap.size, 1, none⟩ = some (.int .i64 x1) ∧ W.cell? ⟨w.heap.size, 2, none⟩ = some (.int .i64 k2) ∧ W.cell? ⟨w.heap.size, 3, none⟩ = some (.int .i64 x2) ∧ W.cell? ⟨w.heap.size + 1, 0, none⟩ = some (.int .i64 k3) ∧ W.cell? ⟨w.heap.size + 1, 1, none⟩ = some (.int .i64 x3) ∧ W.cell? ⟨w.heap.size + 1, 2, none⟩ = some (.int .i64 k4) ∧ W.cell? ⟨w.heap.size + 1, 3, none⟩ = some (.int .i64 x4) ∧ W.cell? ⟨w.heap.size + 1 + 1, 0, none⟩ = some (.bool false) ∧ W.frozen? ⟨w.heap.size + 1 + 1, 0, none⟩ = false ∧ Below w.heap.size w W)
      (first | (go_split_ands; refine ⟨?_, ?_, ?_, ?_, ?_, ?_, ?_, ?_, ?_, ?_, ?_⟩ <;> assumption) | (go_split_ands; exact ⟨pw_cell_below hb (by assumption), pw_cell_below hb (by assumption), pw_cell_below hb (by assumption), pw_cell_below hb (by assumption), pw_cell_below hb (by assumption), pw_cell_below hb (by assumption), pw_cell_below hb (by assumption), pw_cell_below hb (by assumption), pw_cell_below hb (by assumption), keep_frozen hb (by assumption) (by assumption), below_step (by assumption) hb⟩) | (refine ⟨?_, ?_, ?_, ?_, ?_, ?_, ?_, ?_, ?_, ?_, ?_⟩; (iterate 10 (focus (simp [go_sem]; done))); repeat (first | (with_reducible exact Below.refl _ _) | (with_reducible apply below_alloc) | (with_reducible apply below_drew))))
      (first | (go_at_call 59; refine (expr_ok _ _ _ _ _).mono ?_; rintro e w1 ⟨rfl, hb⟩) | ((with_reducible refine (M _).mono ?_); rintro e w3 ⟨rfl, hb⟩))
  all_goals go_wp2
  all_goals
    obtain ⟨-, -, -, -, -, -, -, -, hc, hz, hB⟩ := (by assumption : w3.cell? ⟨w.heap.size, 0, none⟩ = some (.int .i64 k1) ∧ w3.cell? ⟨w.heap.size, 1, none⟩ = some (.int .i64 x1) ∧ w3.cell? ⟨w.heap.size, 2, none⟩ = some (.int .i64 k2) ∧ w3.cell? ⟨w.heap.size, 3, none⟩ = some (.int .i64 x2) ∧ w3.cell? ⟨w.heap.size + 1, 0, none⟩ = some (.int .i64 k3) ∧ w3.cell? ⟨w.heap.size + 1, 1, none⟩ = some (.int .i64 x3) ∧ w3.cell? ⟨w.heap.size + 1, 2, none⟩ = some (.int .i64 k4) ∧ w3.cell? ⟨w.heap.size + 1, 3, none⟩ = some (.int .i64 x4) ∧ w3.cell? ⟨w.heap.size + 1 + 1, 0, none⟩ = some (.bool false) ∧ w3.frozen? ⟨w.heap.size + 1 + 1, 0, none⟩ = false ∧ Below w.heap.size w w3)
    go_region
  all_goals go_wp2
  all_goals first
    | exact ends_caught (v := .tuple #[.bool false, .bool true]) (by simp [results, Tryd.results25, go_sem, hc]) ⟨rfl, below_drew (hB.setCell (by simp; omega) _)⟩
    | exact ends_caught (v := .tuple #[.bool true, .bool true]) (by simp [results, Tryd.results25, go_sem, hc]) ⟨rfl, below_drew (hB.setCell (by simp; omega) _)⟩

set_option maxHeartbeats 4000000 in
theorem RGEmpty_ok (k1 x1 k2 x2 : Int) (q : Bool) (hq : decide (0 ≤ cmpC (C.of k1 x1) (C.of k2 x2)) = q) (w : World) :
    Calls Tryd.prog 26 #[.agg #[.int .i64 k1, .int .i64 x1, .int .i64 k2, .int .i64 x2]] w fun e w' => e = .returned (.tuple #[.bool q, .bool true]) ∧ Below w.heap.size w w' := by
  have M : ∀ W : World, Calls Tryd.prog 64 #[.agg #[.iface (C.of k1 x1).ty (C.of k1 x1).pay, .iface (C.of k2 x2).ty (C.of k2 x2).pay, typV]] W fun e w' => e = .returned (.tuple #[.bool q, .nilIface]) ∧ Below W.heap.size W w' := fun W => hq ▸ isEmpty_ok (C.of k1 x1) (C.of k2 x2) W
  clear hq
  cases q
  all_goals
    go_enter_defers Tryd.func26, Tryd.ntmps26
    go_wp2_with (first | (go_at_call 59; refine (expr_ok _ _ _ _ _).mono ?_; rintro e w1 ⟨rfl, hb⟩; have n0 : w1.cell? ⟨w.heap.size + 1, 0, none⟩ = some (.bool false) := (pw_cell_below hb (by simp [go_sem])); have nf : w1.frozen? ⟨w.heap.size + 1, 0, none⟩ = false := (keep_frozen (v := .bool false) hb (by simp [go_sem]) (by simp [go_sem])); have B1 : Below w.heap.size w w1 := (below_step (by repeat (first | (with_reducible exact Below.refl _ _) | (with_reducible apply below_alloc) | (with_reducible apply below_drew))) hb); clear hb) | ((with_reducible refine (M _).mono ?_); rintro e w3 ⟨rfl, hb⟩; have hc := pw_cell_below hb n0; have hz := keep_frozen (v := .bool false) hb n0 nf; have hB := below_step B1 hb; clear hb n0 nf B1))
  all_goals go_region
  all_goals go_wp2
  all_goals first
    | exact ends_caught (v := .tuple #[.bool false, .bool true]) (by simp [results, Tryd.results26, go_sem, hc]) ⟨rfl, below_drew (hB.setCell (by simp <;> omega) _)⟩
    | exact ends_caught (v := .tuple #[.bool true, .bool true]) (by simp [results, Tryd.results26, go_sem, hc]) ⟨rfl, below_drew (hB.setCell (by simp <;> omega) _)⟩
end Go.Proofs.YtlcoodjkolponaaDoor.PRG
