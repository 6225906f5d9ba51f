/-
  Contracts of OrderedCuts, TryUnion (two ranges with values) and colOf.
-/
import Derived.Test.YtlcoodjkolponaaDoorRGc
import Derived.Test.YtlcoodjkolponaaDoorRGe
namespace Go.Proofs.YtlcoodjkolponaaDoor.PRG
open Go.RowKit Go.Proofs.YtlcoodjkolponaaDoorW.PrintWords Go.Proofs.YtlcoodjkolponaaDoorW.PrintLast Go.Proofs.YtlcoodjkolponaaDoorW.PrintMore
set_option linter.unusedVariables false
set_option maxRecDepth 100000

/-- The lower one of two cuts, and the higher one. -/
def loC (a b : C) : C := if cmpC a b ≤ 0 then a else b
def hiC (a b : C) : C := if cmpC a b ≤ 0 then b else a
theorem orderedCuts_ok (a b : C) (w : World) :
    Calls Tryd.prog 85 #[.iface a.ty a.pay, .iface b.ty b.pay, typV] w fun e w' => e = .returned (.tuple #[.iface (loC a b).ty (loC a b).pay, .iface (hiC a b).ty (hiC a b).pay, .nilIface]) ∧ Below w.heap.size w w' := by
  unfold loC hiC
  by_cases hm : cmpC a b ≤ 0
  all_goals
    simp only [hm, if_true, if_false]
    go_enter Tryd.func85, Tryd.ntmps85
    go_wp2_with (first | ((with_reducible refine (cmp_ok _ _ _).mono ?_); rintro e W1 ⟨rfl, hb⟩; have HB := Aside0.mk hb; clear hb))
  all_goals exact bodyPost_ret (by simp [results, Tryd.results85, go_sem]) rfl ⟨rfl, HB.out⟩

set_option maxHeartbeats 4000000 in
theorem tryUnion_ok (a b c d : C) (ha : ¬ 0 ≤ cmpC a b) (hc : ¬ 0 ≤ cmpC c d) (q : Bool) (hq : (!decide (0 < cmpC a d) && decide (cmpC c b ≤ 0)) = q) (w : World) :
    Calls Tryd.prog 68 #[.agg #[.iface a.ty a.pay, .iface b.ty b.pay, typV], .agg #[.iface c.ty c.pay, .iface d.ty d.pay, typV]] w fun e w' => e = .returned (.tuple #[if q then .agg #[.iface (loC a c).ty (loC a c).pay, .iface (hiC b d).ty (hiC b d).pay, typV] else .agg #[.nilIface, .nilIface, .nilIface], .bool q, .nilIface]) ∧ Below w.heap.size w w' := by
  have E1 : ∀ W : World, Calls Tryd.prog 64 #[.agg #[.iface a.ty a.pay, .iface b.ty b.pay, typV]] W fun e w' => e = .returned (.tuple #[.bool false, .nilIface]) ∧ Below W.heap.size W w' := fun W => (decide_eq_false ha) ▸ isEmpty_ok a b W
  have E2 : ∀ W : World, Calls Tryd.prog 64 #[.agg #[.iface c.ty c.pay, .iface d.ty d.pay, typV]] W fun e w' => e = .returned (.tuple #[.bool false, .nilIface]) ∧ Below W.heap.size W w' := fun W => (decide_eq_false hc) ▸ isEmpty_ok c d W
  have Q : ∀ W : World, Calls Tryd.prog 63 #[.agg #[.iface a.ty a.pay, .iface b.ty b.pay, typV], .agg #[.iface c.ty c.pay, .iface d.ty d.pay, typV]] W fun e w' => e = .returned (.tuple #[.bool q, .nilIface]) ∧ Below W.heap.size W w' := fun W => hq ▸ isConnected_ok a b c d W
  clear hq ha hc
  cases q
  all_goals
    go_enter Tryd.func68, Tryd.ntmps68
    go_wp2_with (first | ((first | (with_reducible refine (E2 _).mono ?_) | (with_reducible refine (E1 _).mono ?_) | (with_reducible refine (Q _).mono ?_) | (go_at_call 85; refine (orderedCuts_ok _ _ _).mono ?_)); rintro e W1 ⟨rfl, hb⟩; have n0 : W1.cell? ⟨w.heap.size, 0, none⟩ = some (.iface a.ty a.pay) := (pw_cell_below hb (by first | assumption | (simp [go_sem]; done))); have n1 : W1.cell? ⟨w.heap.size, 1, none⟩ = some (.iface b.ty b.pay) := (pw_cell_below hb (by first | assumption | (simp [go_sem]; done))); have n2 : W1.cell? ⟨w.heap.size, 2, none⟩ = some (typV) := (pw_cell_below hb (by first | assumption | (simp [go_sem]; done))); have n3 : W1.cell? ⟨w.heap.size + 1, 0, none⟩ = some (.iface c.ty c.pay) := (pw_cell_below hb (by first | assumption | (simp [go_sem]; done))); have n4 : W1.cell? ⟨w.heap.size + 1, 1, none⟩ = some (.iface d.ty d.pay) := (pw_cell_below hb (by first | assumption | (simp [go_sem]; done))); have n5 : W1.cell? ⟨w.heap.size + 1, 2, none⟩ = some (typV) := (pw_cell_below hb (by first | assumption | (simp [go_sem]; done))); have n6 : W1.cell? ⟨w.heap.size + 1 + 1, 0, none⟩ = some (.nilIface) := (pw_cell_below hb (by first | assumption | (simp [go_sem]; done))); have n7 : W1.cell? ⟨w.heap.size + 1 + 1, 1, none⟩ = some (.nilIface) := (pw_cell_below hb (by first | assumption | (simp [go_sem]; done))); have n8 : W1.cell? ⟨w.heap.size + 1 + 1, 2, none⟩ = some (.nilIface) := (pw_cell_below hb (by first | assumption | (simp [go_sem]; done))); have m6 : W1.frozen? ⟨w.heap.size + 1 + 1, 0, none⟩ = false := (keep_frozen (v := .nilIface) hb (by first | assumption | (simp [go_sem]; done)) (by first | assumption | (simp [go_sem]; done))); have m7 : W1.frozen? ⟨w.heap.size + 1 + 1, 1, none⟩ = false := (keep_frozen (v := .nilIface) hb (by first | assumption | (simp [go_sem]; done)) (by first | assumption | (simp [go_sem]; done))); have m8 : W1.frozen? ⟨w.heap.size + 1 + 1, 2, none⟩ = false := (keep_frozen (v := .nilIface) hb (by first | assumption | (simp [go_sem]; done)) (by first | assumption | (simp [go_sem]; done))); have nB : Aside0 (Below w.heap.size w W1) := (Aside0.mk (below_step (by first | (with_reducible exact HB.out) | (repeat (first | (with_reducible exact HB.out) | (with_reducible exact Below.refl _ _) | (with_reducible apply below_alloc) | (with_reducible apply below_drew)))) hb)); (try clear c0); (try clear c1); (try clear c2); (try clear c3); (try clear c4); (try clear c5); (try clear c6); (try clear c7); (try clear c8); (try clear z6); (try clear z7); (try clear z8); (try clear HB); clear hb; have c0 := n0; clear n0; have c1 := n1; clear n1; have c2 := n2; clear n2; have c3 := n3; clear n3; have c4 := n4; clear n4; have c5 := n5; clear n5; have c6 := n6; clear n6; have c7 := n7; clear n7; have c8 := n8; clear n8; have z6 := m6; clear m6; have z7 := m7; clear m7; have z8 := m8; clear m8; have HB := nB; clear nB))
  · exact bodyPost_ret (v := .tuple #[.agg #[.nilIface, .nilIface, .nilIface], .bool false, .nilIface]) (by simp [results, Tryd.results68, go_sem, c6, c7, c8]) rfl ⟨rfl, by repeat (first | exact HB.out | (refine Below.setCell ?_ (by simp <;> omega) _))⟩
  · exact bodyPost_ret (v := .tuple #[.agg #[.iface (loC a c).ty (loC a c).pay, .iface (hiC b d).ty (hiC b d).pay, typV], .bool true, .nilIface]) (by simp [results, Tryd.results68, go_sem, c6, c7, c8]) rfl ⟨rfl, by repeat (first | exact HB.out | (refine Below.setCell ?_ (by simp <;> omega) _))⟩

theorem blk_step {W W1 : World} {k : Nat} {o : Obj} (hb : Below W.heap.size W W1) (h : W.heap[k]? = some o) : W1.heap[k]? = some o := (hb.block k (blk_lt h)).trans h
set_option maxHeartbeats 4000000 in
theorem colOf_gen (ta tb : TypeId) (pa pb : Value) (ka xa kb xb : Int) (Ha : ∀ W : World, Calls Tryd.prog 51 #[.iface ta pa] W fun e w' => e = .returned (.agg #[.int .i64 ka, .int .i64 xa]) ∧ Below W.heap.size W w') (Hb : ∀ W : World, Calls Tryd.prog 51 #[.iface tb pb] W fun e w' => e = .returned (.agg #[.int .i64 kb, .int .i64 xb]) ∧ Below W.heap.size W w') (w : World) :
    Calls Tryd.prog 69 #[.agg #[.iface ta pa, .iface tb pb, typV]] w fun e w' => e = .returned (.agg #[.int .i64 ka, .int .i64 xa, .int .i64 kb, .int .i64 xb]) ∧ Below w.heap.size w w' := by
  have K0 := Aside0.mk ((Below.heap_alloc (w.alloc (.cells #[.iface ta pa, .iface tb pb, typV] 96)) (.cells #[.int .i64 0, .int .i64 0, .int .i64 0, .int .i64 0] 44) w.heap.size (by simp)).trans (heap_alloc_new w (.cells #[.iface ta pa, .iface tb pb, typV] 96)))
  have K1 : Aside0 (((w.alloc (.cells #[.iface ta pa, .iface tb pb, typV] 96)).alloc (.cells #[.int .i64 0, .int .i64 0, .int .i64 0, .int .i64 0] 44)).heap[w.heap.size + 1]? = some (.cells #[.int .i64 0, .int .i64 0, .int .i64 0, .int .i64 0] 44 (0, 0))) := ⟨by
    have h := heap_alloc_new (w.alloc (.cells #[.iface ta pa, .iface tb pb, typV] 96)) (.cells #[.int .i64 0, .int .i64 0, .int .i64 0, .int .i64 0] 44)
    simpa using h⟩
  have KB := Aside0.mk (below_alloc (below_alloc (Below.refl w.heap.size w) (.cells #[.iface ta pa, .iface tb pb, typV] 96)) (.cells #[.int .i64 0, .int .i64 0, .int .i64 0, .int .i64 0] 44))
  go_enter Tryd.func69, Tryd.ntmps69
  go_wp2
  go_region_with (first | ((first | (with_reducible refine (Ha _).mono ?_) | (with_reducible refine (Hb _).mono ?_)); (rintro e W1 ⟨rfl, hb⟩; have B0 := blk_step hb (by first | exact B0 | exact K0.out); have B1 := blk_step hb (by first | exact B1 | exact K1.out); have HB := below_step (by first | exact HB | exact below_drew KB.out | exact KB.out) hb; clear hb; have n0 : W1.cell? ⟨w.heap.size, 0, none⟩ = some (.iface ta pa) := (by rw [blk_cell B0]; rfl); have n1 : W1.cell? ⟨w.heap.size, 1, none⟩ = some (.iface tb pb) := (by rw [blk_cell B0]; rfl); have d0 : W1.cell? ⟨w.heap.size + 1, 0, none⟩ = some (.int .i64 0) := (by rw [blk_cell B1]; rfl); have d1 : W1.cell? ⟨w.heap.size + 1, 1, none⟩ = some (.int .i64 0) := (by rw [blk_cell B1]; rfl); have d2 : W1.cell? ⟨w.heap.size + 1, 2, none⟩ = some (.int .i64 0) := (by rw [blk_cell B1]; rfl); have d3 : W1.cell? ⟨w.heap.size + 1, 3, none⟩ = some (.int .i64 0) := (by rw [blk_cell B1]; rfl); have f0 : ∀ j, W1.frozen? ⟨w.heap.size + 1, j, none⟩ = false := (fun j => blk_frozen B1 j); have g0 := f0 0; have g1 := f0 1; have g2 := f0 2; have g3 := f0 3; clear f0)))
  all_goals go_wp2
  all_goals exact bodyPost_ret (v := .agg #[.int .i64 ka, .int .i64 xa, .int .i64 kb, .int .i64 xb]) (by simp [results, Tryd.results69, go_sem, d0, d1, d2, d3]) rfl ⟨rfl, by repeat (first | exact HB | (refine Below.drew ?_) | (refine Below.setCell ?_ (by simp) _))⟩
theorem colOf_ok (a b : C) (w : World) :
    Calls Tryd.prog 69 #[.agg #[.iface a.ty a.pay, .iface b.ty b.pay, typV]] w fun e w' => e = .returned (.agg #[.int .i64 a.kind, .int .i64 a.key, .int .i64 b.kind, .int .i64 b.key]) ∧ Below w.heap.size w w' :=
  colOf_gen _ _ _ _ _ _ _ _ (cutOf_ok a) (cutOf_ok b) w
end Go.Proofs.YtlcoodjkolponaaDoor.PRG
