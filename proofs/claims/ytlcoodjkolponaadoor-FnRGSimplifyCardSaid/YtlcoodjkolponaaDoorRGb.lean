/-
  Contracts of MySQLRangeColumnExpr's methods that ask (Equals, IsConnected, IsEmpty, IsSubsetOf, IsSupersetOf) and of impl's functions over them. No condition.
-/
import Derived.Test.YtlcoodjkolponaaDoorRGa
namespace Go.Proofs.YtlcoodjkolponaaDoor.PRG
open Go.RowKit Go.Proofs.YtlcoodjkolponaaDoorW.PrintWords Go.Proofs.YtlcoodjkolponaaDoorW.PrintLast Go.Proofs.YtlcoodjkolponaaDoorW.PrintMore
set_option linter.unusedVariables false
set_option maxRecDepth 100000

@[go_sem] theorem method_str (w : World) (n : Nat) : (method (n + 1) 75 (.agg #[]) "String").run Tryd.prog w = .ok (156, .agg #[]) w := by
  kernel_rfl
def bigint : ByteArray := ⟨#[98, 105, 103, 105, 110, 116]⟩
theorem str_ok (w : World) : Calls Tryd.prog 156 #[.agg #[]] w fun e w' => e = .returned (.string bigint) ∧ Below w.heap.size w w' := by
  go_enter Tryd.func156, Tryd.ntmps156
  go_wp2
  go_ret
  exact ⟨rfl, by repeat (first | (with_reducible exact Below.refl _ _) | (with_reducible apply below_alloc))⟩

theorem isEmpty_ok (a b : C) (w : World) :
    Calls Tryd.prog 64 #[.agg #[.iface a.ty a.pay, .iface b.ty b.pay, typV]] w fun e w' => e = .returned (.tuple #[.bool (decide (0 ≤ cmpC a b)), .nilIface]) ∧ Below w.heap.size w w' := by
  go_enter Tryd.func64, Tryd.ntmps64
  go_wp2_with (first | ((with_reducible refine (cmp_ok _ _ _).mono ?_); rintro e W1 ⟨rfl, hb⟩; have n0 : W1.cell? ⟨w.heap.size, 0, none⟩ = some (.iface a.ty a.pay) := (pw_cell_below hb (by first | assumption | (simp [go_sem]; done))); have n1 : W1.cell? ⟨w.heap.size, 1, none⟩ = some (.iface b.ty b.pay) := (pw_cell_below hb (by first | assumption | (simp [go_sem]; done))); have n2 : W1.cell? ⟨w.heap.size, 2, none⟩ = some (typV) := (pw_cell_below hb (by first | assumption | (simp [go_sem]; done))); have nB : Aside0 (Below w.heap.size w W1) := (Aside0.mk (below_step (by first | (with_reducible exact HB.out) | (repeat (first | (with_reducible exact HB.out) | (with_reducible exact Below.refl _ _) | (with_reducible apply below_alloc) | (with_reducible apply below_drew)))) hb)); (try clear c0); (try clear c1); (try clear c2); (try clear HB); clear hb; have c0 := n0; clear n0; have c1 := n1; clear n1; have c2 := n2; clear n2; have HB := nB; clear nB))
  go_ret2
  exact ⟨rfl, HB.out⟩

set_option maxHeartbeats 1000000 in
theorem equals_ok (a b c d : C) (w : World) :
    Calls Tryd.prog 60 #[.agg #[.iface a.ty a.pay, .iface b.ty b.pay, typV], .agg #[.iface c.ty c.pay, .iface d.ty d.pay, typV]] w fun e w' => e = .returned (.tuple #[.bool (cmpC a c == 0 && cmpC b d == 0), .nilIface]) ∧ Below w.heap.size w w' := by
  by_cases hm0 : cmpC a c = 0
  · have hm := beq_iff_eq.2 hm0
    clear hm0
    by_cases hn0 : cmpC b d = 0
    · have hn := beq_iff_eq.2 hn0
      clear hn0
      go_enter Tryd.func60, Tryd.ntmps60
      go_wp2_with (first | ((with_reducible refine (cmp_ok _ _ _).mono ?_); rintro e W1 ⟨rfl, hb⟩; have n0 : W1.cell? ⟨w.heap.size, 0, none⟩ = some (.iface a.ty a.pay) := (pw_cell_below hb (by first | assumption | (simp [go_sem]; done))); have n1 : W1.cell? ⟨w.heap.size, 1, none⟩ = some (.iface b.ty b.pay) := (pw_cell_below hb (by first | assumption | (simp [go_sem]; done))); have n2 : W1.cell? ⟨w.heap.size, 2, none⟩ = some (typV) := (pw_cell_below hb (by first | assumption | (simp [go_sem]; done))); have n3 : W1.cell? ⟨w.heap.size + 1, 0, none⟩ = some (.iface c.ty c.pay) := (pw_cell_below hb (by first | assumption | (simp [go_sem]; done))); have n4 : W1.cell? ⟨w.heap.size + 1, 1, none⟩ = some (.iface d.ty d.pay) := (pw_cell_below hb (by first | assumption | (simp [go_sem]; done))); have n5 : W1.cell? ⟨w.heap.size + 1, 2, none⟩ = some (typV) := (pw_cell_below hb (by first | assumption | (simp [go_sem]; done))); have nB : Aside0 (Below w.heap.size w W1) := (Aside0.mk (below_step (by first | (with_reducible exact HB.out) | (repeat (first | (with_reducible exact HB.out) | (with_reducible exact Below.refl _ _) | (with_reducible apply below_alloc) | (with_reducible apply below_drew)))) hb)); (try clear c0); (try clear c1); (try clear c2); (try clear c3); (try clear c4); (try clear c5); (try clear HB); clear hb; have c0 := n0; clear n0; have c1 := n1; clear n1; have c2 := n2; clear n2; have c3 := n3; clear n3; have c4 := n4; clear n4; have c5 := n5; clear n5; have HB := nB; clear nB))
      go_ret2
      exact ⟨by simp [hm, hn], HB.out⟩
    · have hn := beq_eq_false_iff_ne.2 hn0
      clear hn0
      go_enter Tryd.func60, Tryd.ntmps60
      go_wp2_with (first | ((with_reducible refine (cmp_ok _ _ _).mono ?_); rintro e W1 ⟨rfl, hb⟩; have n0 : W1.cell? ⟨w.heap.size, 0, none⟩ = some (.iface a.ty a.pay) := (pw_cell_below hb (by first | assumption | (simp [go_sem]; done))); have n1 : W1.cell? ⟨w.heap.size, 1, none⟩ = some (.iface b.ty b.pay) := (pw_cell_below hb (by first | assumption | (simp [go_sem]; done))); have n2 : W1.cell? ⟨w.heap.size, 2, none⟩ = some (typV) := (pw_cell_below hb (by first | assumption | (simp [go_sem]; done))); have n3 : W1.cell? ⟨w.heap.size + 1, 0, none⟩ = some (.iface c.ty c.pay) := (pw_cell_below hb (by first | assumption | (simp [go_sem]; done))); have n4 : W1.cell? ⟨w.heap.size + 1, 1, none⟩ = some (.iface d.ty d.pay) := (pw_cell_below hb (by first | assumption | (simp [go_sem]; done))); have n5 : W1.cell? ⟨w.heap.size + 1, 2, none⟩ = some (typV) := (pw_cell_below hb (by first | assumption | (simp [go_sem]; done))); have nB : Aside0 (Below w.heap.size w W1) := (Aside0.mk (below_step (by first | (with_reducible exact HB.out) | (repeat (first | (with_reducible exact HB.out) | (with_reducible exact Below.refl _ _) | (with_reducible apply below_alloc) | (with_reducible apply below_drew)))) hb)); (try clear c0); (try clear c1); (try clear c2); (try clear c3); (try clear c4); (try clear c5); (try clear HB); clear hb; have c0 := n0; clear n0; have c1 := n1; clear n1; have c2 := n2; clear n2; have c3 := n3; clear n3; have c4 := n4; clear n4; have c5 := n5; clear n5; have HB := nB; clear nB))
      go_ret2
      exact ⟨by simp [hm, hn], HB.out⟩
  · have hm := beq_eq_false_iff_ne.2 hm0
    clear hm0
    by_cases hn0 : cmpC b d = 0
    · have hn := beq_iff_eq.2 hn0
      clear hn0
      go_enter Tryd.func60, Tryd.ntmps60
      go_wp2_with (first | ((with_reducible refine (cmp_ok _ _ _).mono ?_); rintro e W1 ⟨rfl, hb⟩; have n0 : W1.cell? ⟨w.heap.size, 0, none⟩ = some (.iface a.ty a.pay) := (pw_cell_below hb (by first | assumption | (simp [go_sem]; done))); have n1 : W1.cell? ⟨w.heap.size, 1, none⟩ = some (.iface b.ty b.pay) := (pw_cell_below hb (by first | assumption | (simp [go_sem]; done))); have n2 : W1.cell? ⟨w.heap.size, 2, none⟩ = some (typV) := (pw_cell_below hb (by first | assumption | (simp [go_sem]; done))); have n3 : W1.cell? ⟨w.heap.size + 1, 0, none⟩ = some (.iface c.ty c.pay) := (pw_cell_below hb (by first | assumption | (simp [go_sem]; done))); have n4 : W1.cell? ⟨w.heap.size + 1, 1, none⟩ = some (.iface d.ty d.pay) := (pw_cell_below hb (by first | assumption | (simp [go_sem]; done))); have n5 : W1.cell? ⟨w.heap.size + 1, 2, none⟩ = some (typV) := (pw_cell_below hb (by first | assumption | (simp [go_sem]; done))); have nB : Aside0 (Below w.heap.size w W1) := (Aside0.mk (below_step (by first | (with_reducible exact HB.out) | (repeat (first | (with_reducible exact HB.out) | (with_reducible exact Below.refl _ _) | (with_reducible apply below_alloc) | (with_reducible apply below_drew)))) hb)); (try clear c0); (try clear c1); (try clear c2); (try clear c3); (try clear c4); (try clear c5); (try clear HB); clear hb; have c0 := n0; clear n0; have c1 := n1; clear n1; have c2 := n2; clear n2; have c3 := n3; clear n3; have c4 := n4; clear n4; have c5 := n5; clear n5; have HB := nB; clear nB))
      go_ret2
      exact ⟨by simp [hm, hn], HB.out⟩
    · have hn := beq_eq_false_iff_ne.2 hn0
      clear hn0
      go_enter Tryd.func60, Tryd.ntmps60
      go_wp2_with (first | ((with_reducible refine (cmp_ok _ _ _).mono ?_); rintro e W1 ⟨rfl, hb⟩; have n0 : W1.cell? ⟨w.heap.size, 0, none⟩ = some (.iface a.ty a.pay) := (pw_cell_below hb (by first | assumption | (simp [go_sem]; done))); have n1 : W1.cell? ⟨w.heap.size, 1, none⟩ = some (.iface b.ty b.pay) := (pw_cell_below hb (by first | assumption | (simp [go_sem]; done))); have n2 : W1.cell? ⟨w.heap.size, 2, none⟩ = some (typV) := (pw_cell_below hb (by first | assumption | (simp [go_sem]; done))); have n3 : W1.cell? ⟨w.heap.size + 1, 0, none⟩ = some (.iface c.ty c.pay) := (pw_cell_below hb (by first | assumption | (simp [go_sem]; done))); have n4 : W1.cell? ⟨w.heap.size + 1, 1, none⟩ = some (.iface d.ty d.pay) := (pw_cell_below hb (by first | assumption | (simp [go_sem]; done))); have n5 : W1.cell? ⟨w.heap.size + 1, 2, none⟩ = some (typV) := (pw_cell_below hb (by first | assumption | (simp [go_sem]; done))); have nB : Aside0 (Below w.heap.size w W1) := (Aside0.mk (below_step (by first | (with_reducible exact HB.out) | (repeat (first | (with_reducible exact HB.out) | (with_reducible exact Below.refl _ _) | (with_reducible apply below_alloc) | (with_reducible apply below_drew)))) hb)); (try clear c0); (try clear c1); (try clear c2); (try clear c3); (try clear c4); (try clear c5); (try clear HB); clear hb; have c0 := n0; clear n0; have c1 := n1; clear n1; have c2 := n2; clear n2; have c3 := n3; clear n3; have c4 := n4; clear n4; have c5 := n5; clear n5; have HB := nB; clear nB))
      go_ret2
      exact ⟨by simp [hm, hn], HB.out⟩

set_option maxHeartbeats 1000000 in
theorem isConnected_ok (a b c d : C) (w : World) :
    Calls Tryd.prog 63 #[.agg #[.iface a.ty a.pay, .iface b.ty b.pay, typV], .agg #[.iface c.ty c.pay, .iface d.ty d.pay, typV]] w fun e w' => e = .returned (.tuple #[.bool (!decide (0 < cmpC a d) && decide (cmpC c b ≤ 0)), .nilIface]) ∧ Below w.heap.size w w' := by
  by_cases hm0 : 0 < cmpC a d
  · have hm := hm0
    clear hm0
    go_enter Tryd.func63, Tryd.ntmps63
    go_wp2
    go_region_held3 (fun W => W.cell? ⟨w.heap.size, 0, none⟩ = some (.iface a.ty a.pay) ∧ W.cell? ⟨w.heap.size, 1, none⟩ = some (.iface b.ty b.pay) ∧ W.cell? ⟨w.heap.size, 2, none⟩ = some (typV) ∧ W.cell? ⟨w.heap.size + 1, 0, none⟩ = some (.iface c.ty c.pay) ∧ W.cell? ⟨w.heap.size + 1, 1, none⟩ = some (.iface d.ty d.pay) ∧ W.cell? ⟨w.heap.size + 1, 2, none⟩ = some (typV) ∧ Below w.heap.size w W)
        (first | (go_split_ands; refine ⟨?_, ?_, ?_, ?_, ?_, ?_, ?_⟩ <;> assumption) | (go_split_ands; exact ⟨pw_cell_below hb (by assumption), pw_cell_below hb (by assumption), pw_cell_below hb (by assumption), pw_cell_below hb (by assumption), pw_cell_below hb (by assumption), pw_cell_below hb (by assumption), below_step (by assumption) hb⟩) | (refine ⟨?_, ?_, ?_, ?_, ?_, ?_, ?_⟩; (iterate 6 (focus (first | assumption | (simp [go_sem]; done) | (simp [go_sem, *]; done)))); (repeat (first | (with_reducible exact Below.refl _ _) | (with_reducible apply below_alloc) | (with_reducible apply below_drew) | (with_reducible exact HB.out)))))
        (first | (go_at_call 156; refine (str_ok _).mono ?_; rintro e w3 ⟨rfl, hb⟩))
    obtain ⟨c0, c1, c2, c3, c4, c5, hB⟩ := (by assumption : w3.cell? ⟨w.heap.size, 0, none⟩ = some (.iface a.ty a.pay) ∧ w3.cell? ⟨w.heap.size, 1, none⟩ = some (.iface b.ty b.pay) ∧ w3.cell? ⟨w.heap.size, 2, none⟩ = some (typV) ∧ w3.cell? ⟨w.heap.size + 1, 0, none⟩ = some (.iface c.ty c.pay) ∧ w3.cell? ⟨w.heap.size + 1, 1, none⟩ = some (.iface d.ty d.pay) ∧ w3.cell? ⟨w.heap.size + 1, 2, none⟩ = some (typV) ∧ Below w.heap.size w w3)
    replace hB := Aside0.mk hB
    have HB := hB
    clear hB
    go_wp2_with (first | ((with_reducible refine (cmp_ok _ _ _).mono ?_); rintro e W1 ⟨rfl, hb⟩; have n0 : W1.cell? ⟨w.heap.size, 0, none⟩ = some (.iface a.ty a.pay) := (pw_cell_below hb (by first | assumption | (simp [go_sem]; done))); have n1 : W1.cell? ⟨w.heap.size, 1, none⟩ = some (.iface b.ty b.pay) := (pw_cell_below hb (by first | assumption | (simp [go_sem]; done))); have n2 : W1.cell? ⟨w.heap.size, 2, none⟩ = some (typV) := (pw_cell_below hb (by first | assumption | (simp [go_sem]; done))); have n3 : W1.cell? ⟨w.heap.size + 1, 0, none⟩ = some (.iface c.ty c.pay) := (pw_cell_below hb (by first | assumption | (simp [go_sem]; done))); have n4 : W1.cell? ⟨w.heap.size + 1, 1, none⟩ = some (.iface d.ty d.pay) := (pw_cell_below hb (by first | assumption | (simp [go_sem]; done))); have n5 : W1.cell? ⟨w.heap.size + 1, 2, none⟩ = some (typV) := (pw_cell_below hb (by first | assumption | (simp [go_sem]; done))); have nB : Aside0 (Below w.heap.size w W1) := (Aside0.mk (below_step (by first | (with_reducible exact HB.out) | (repeat (first | (with_reducible exact HB.out) | (with_reducible exact Below.refl _ _) | (with_reducible apply below_alloc) | (with_reducible apply below_drew)))) hb)); (try clear c0); (try clear c1); (try clear c2); (try clear c3); (try clear c4); (try clear c5); (try clear HB); clear hb; have c0 := n0; clear n0; have c1 := n1; clear n1; have c2 := n2; clear n2; have c3 := n3; clear n3; have c4 := n4; clear n4; have c5 := n5; clear n5; have HB := nB; clear nB))
    go_ret2
    exact ⟨by simp [hm], HB.out⟩
  · have hm := hm0
    clear hm0
    go_enter Tryd.func63, Tryd.ntmps63
    go_wp2
    go_region_held3 (fun W => W.cell? ⟨w.heap.size, 0, none⟩ = some (.iface a.ty a.pay) ∧ W.cell? ⟨w.heap.size, 1, none⟩ = some (.iface b.ty b.pay) ∧ W.cell? ⟨w.heap.size, 2, none⟩ = some (typV) ∧ W.cell? ⟨w.heap.size + 1, 0, none⟩ = some (.iface c.ty c.pay) ∧ W.cell? ⟨w.heap.size + 1, 1, none⟩ = some (.iface d.ty d.pay) ∧ W.cell? ⟨w.heap.size + 1, 2, none⟩ = some (typV) ∧ Below w.heap.size w W)
        (first | (go_split_ands; refine ⟨?_, ?_, ?_, ?_, ?_, ?_, ?_⟩ <;> assumption) | (go_split_ands; exact ⟨pw_cell_below hb (by assumption), pw_cell_below hb (by assumption), pw_cell_below hb (by assumption), pw_cell_below hb (by assumption), pw_cell_below hb (by assumption), pw_cell_below hb (by assumption), below_step (by assumption) hb⟩) | (refine ⟨?_, ?_, ?_, ?_, ?_, ?_, ?_⟩; (iterate 6 (focus (first | assumption | (simp [go_sem]; done) | (simp [go_sem, *]; done)))); (repeat (first | (with_reducible exact Below.refl _ _) | (with_reducible apply below_alloc) | (with_reducible apply below_drew) | (with_reducible exact HB.out)))))
        (first | (go_at_call 156; refine (str_ok _).mono ?_; rintro e w3 ⟨rfl, hb⟩))
    obtain ⟨c0, c1, c2, c3, c4, c5, hB⟩ := (by assumption : w3.cell? ⟨w.heap.size, 0, none⟩ = some (.iface a.ty a.pay) ∧ w3.cell? ⟨w.heap.size, 1, none⟩ = some (.iface b.ty b.pay) ∧ w3.cell? ⟨w.heap.size, 2, none⟩ = some (typV) ∧ w3.cell? ⟨w.heap.size + 1, 0, none⟩ = some (.iface c.ty c.pay) ∧ w3.cell? ⟨w.heap.size + 1, 1, none⟩ = some (.iface d.ty d.pay) ∧ w3.cell? ⟨w.heap.size + 1, 2, none⟩ = some (typV) ∧ Below w.heap.size w w3)
    replace hB := Aside0.mk hB
    have HB := hB
    clear hB
    go_wp2_with (first | ((with_reducible refine (cmp_ok _ _ _).mono ?_); rintro e W1 ⟨rfl, hb⟩; have n0 : W1.cell? ⟨w.heap.size, 0, none⟩ = some (.iface a.ty a.pay) := (pw_cell_below hb (by first | assumption | (simp [go_sem]; done))); have n1 : W1.cell? ⟨w.heap.size, 1, none⟩ = some (.iface b.ty b.pay) := (pw_cell_below hb (by first | assumption | (simp [go_sem]; done))); have n2 : W1.cell? ⟨w.heap.size, 2, none⟩ = some (typV) := (pw_cell_below hb (by first | assumption | (simp [go_sem]; done))); have n3 : W1.cell? ⟨w.heap.size + 1, 0, none⟩ = some (.iface c.ty c.pay) := (pw_cell_below hb (by first | assumption | (simp [go_sem]; done))); have n4 : W1.cell? ⟨w.heap.size + 1, 1, none⟩ = some (.iface d.ty d.pay) := (pw_cell_below hb (by first | assumption | (simp [go_sem]; done))); have n5 : W1.cell? ⟨w.heap.size + 1, 2, none⟩ = some (typV) := (pw_cell_below hb (by first | assumption | (simp [go_sem]; done))); have nB : Aside0 (Below w.heap.size w W1) := (Aside0.mk (below_step (by first | (with_reducible exact HB.out) | (repeat (first | (with_reducible exact HB.out) | (with_reducible exact Below.refl _ _) | (with_reducible apply below_alloc) | (with_reducible apply below_drew)))) hb)); (try clear c0); (try clear c1); (try clear c2); (try clear c3); (try clear c4); (try clear c5); (try clear HB); clear hb; have c0 := n0; clear n0; have c1 := n1; clear n1; have c2 := n2; clear n2; have c3 := n3; clear n3; have c4 := n4; clear n4; have c5 := n5; clear n5; have HB := nB; clear nB))
    go_ret2
    exact ⟨by simp [hm], HB.out⟩

set_option maxHeartbeats 1000000 in
theorem isSubsetOf_ok (a b c d : C) (w : World) :
    Calls Tryd.prog 61 #[.agg #[.iface a.ty a.pay, .iface b.ty b.pay, typV], .agg #[.iface c.ty c.pay, .iface d.ty d.pay, typV]] w fun e w' => e = .returned (.tuple #[.bool (!(cmpC a c == -1) && !(cmpC b d == 1)), .nilIface]) ∧ Below w.heap.size w w' := by
  by_cases hm0 : cmpC a c = -1
  · have hm := beq_iff_eq.2 hm0
    clear hm0
    by_cases hn0 : cmpC b d = 1
    · have hn := beq_iff_eq.2 hn0
      clear hn0
      go_enter Tryd.func61, Tryd.ntmps61
      go_wp2
      go_region_held3 (fun W => W.cell? ⟨w.heap.size, 0, none⟩ = some (.iface a.ty a.pay) ∧ W.cell? ⟨w.heap.size, 1, none⟩ = some (.iface b.ty b.pay) ∧ W.cell? ⟨w.heap.size, 2, none⟩ = some (typV) ∧ W.cell? ⟨w.heap.size + 1, 0, none⟩ = some (.iface c.ty c.pay) ∧ W.cell? ⟨w.heap.size + 1, 1, none⟩ = some (.iface d.ty d.pay) ∧ W.cell? ⟨w.heap.size + 1, 2, none⟩ = some (typV) ∧ Below w.heap.size w W)
          (first | (go_split_ands; refine ⟨?_, ?_, ?_, ?_, ?_, ?_, ?_⟩ <;> assumption) | (go_split_ands; exact ⟨pw_cell_below hb (by assumption), pw_cell_below hb (by assumption), pw_cell_below hb (by assumption), pw_cell_below hb (by assumption), pw_cell_below hb (by assumption), pw_cell_below hb (by assumption), below_step (by assumption) hb⟩) | (refine ⟨?_, ?_, ?_, ?_, ?_, ?_, ?_⟩; (iterate 6 (focus (first | assumption | (simp [go_sem]; done) | (simp [go_sem, *]; done)))); (repeat (first | (with_reducible exact Below.refl _ _) | (with_reducible apply below_alloc) | (with_reducible apply below_drew) | (with_reducible exact HB.out)))))
          (first | (go_at_call 156; refine (str_ok _).mono ?_; rintro e w3 ⟨rfl, hb⟩))
      obtain ⟨c0, c1, c2, c3, c4, c5, hB⟩ := (by assumption : w3.cell? ⟨w.heap.size, 0, none⟩ = some (.iface a.ty a.pay) ∧ w3.cell? ⟨w.heap.size, 1, none⟩ = some (.iface b.ty b.pay) ∧ w3.cell? ⟨w.heap.size, 2, none⟩ = some (typV) ∧ w3.cell? ⟨w.heap.size + 1, 0, none⟩ = some (.iface c.ty c.pay) ∧ w3.cell? ⟨w.heap.size + 1, 1, none⟩ = some (.iface d.ty d.pay) ∧ w3.cell? ⟨w.heap.size + 1, 2, none⟩ = some (typV) ∧ Below w.heap.size w w3)
      replace hB := Aside0.mk hB
      have HB := hB
      clear hB
      go_wp2_with (first | ((with_reducible refine (cmp_ok _ _ _).mono ?_); rintro e W1 ⟨rfl, hb⟩; have n0 : W1.cell? ⟨w.heap.size, 0, none⟩ = some (.iface a.ty a.pay) := (pw_cell_below hb (by first | assumption | (simp [go_sem]; done))); have n1 : W1.cell? ⟨w.heap.size, 1, none⟩ = some (.iface b.ty b.pay) := (pw_cell_below hb (by first | assumption | (simp [go_sem]; done))); have n2 : W1.cell? ⟨w.heap.size, 2, none⟩ = some (typV) := (pw_cell_below hb (by first | assumption | (simp [go_sem]; done))); have n3 : W1.cell? ⟨w.heap.size + 1, 0, none⟩ = some (.iface c.ty c.pay) := (pw_cell_below hb (by first | assumption | (simp [go_sem]; done))); have n4 : W1.cell? ⟨w.heap.size + 1, 1, none⟩ = some (.iface d.ty d.pay) := (pw_cell_below hb (by first | assumption | (simp [go_sem]; done))); have n5 : W1.cell? ⟨w.heap.size + 1, 2, none⟩ = some (typV) := (pw_cell_below hb (by first | assumption | (simp [go_sem]; done))); have nB : Aside0 (Below w.heap.size w W1) := (Aside0.mk (below_step (by first | (with_reducible exact HB.out) | (repeat (first | (with_reducible exact HB.out) | (with_reducible exact Below.refl _ _) | (with_reducible apply below_alloc) | (with_reducible apply below_drew)))) hb)); (try clear c0); (try clear c1); (try clear c2); (try clear c3); (try clear c4); (try clear c5); (try clear HB); clear hb; have c0 := n0; clear n0; have c1 := n1; clear n1; have c2 := n2; clear n2; have c3 := n3; clear n3; have c4 := n4; clear n4; have c5 := n5; clear n5; have HB := nB; clear nB))
      go_ret2
      exact ⟨by simp [hm, hn], HB.out⟩
    · have hn := beq_eq_false_iff_ne.2 hn0
      clear hn0
      go_enter Tryd.func61, Tryd.ntmps61
      go_wp2
      go_region_held3 (fun W => W.cell? ⟨w.heap.size, 0, none⟩ = some (.iface a.ty a.pay) ∧ W.cell? ⟨w.heap.size, 1, none⟩ = some (.iface b.ty b.pay) ∧ W.cell? ⟨w.heap.size, 2, none⟩ = some (typV) ∧ W.cell? ⟨w.heap.size + 1, 0, none⟩ = some (.iface c.ty c.pay) ∧ W.cell? ⟨w.heap.size + 1, 1, none⟩ = some (.iface d.ty d.pay) ∧ W.cell? ⟨w.heap.size + 1, 2, none⟩ = some (typV) ∧ Below w.heap.size w W)
          (first | (go_split_ands; refine ⟨?_, ?_, ?_, ?_, ?_, ?_, ?_⟩ <;> assumption) | (go_split_ands; exact ⟨pw_cell_below hb (by assumption), pw_cell_below hb (by assumption), pw_cell_below hb (by assumption), pw_cell_below hb (by assumption), pw_cell_below hb (by assumption), pw_cell_below hb (by assumption), below_step (by assumption) hb⟩) | (refine ⟨?_, ?_, ?_, ?_, ?_, ?_, ?_⟩; (iterate 6 (focus (first | assumption | (simp [go_sem]; done) | (simp [go_sem, *]; done)))); (repeat (first | (with_reducible exact Below.refl _ _) | (with_reducible apply below_alloc) | (with_reducible apply below_drew) | (with_reducible exact HB.out)))))
          (first | (go_at_call 156; refine (str_ok _).mono ?_; rintro e w3 ⟨rfl, hb⟩))
      obtain ⟨c0, c1, c2, c3, c4, c5, hB⟩ := (by assumption : w3.cell? ⟨w.heap.size, 0, none⟩ = some (.iface a.ty a.pay) ∧ w3.cell? ⟨w.heap.size, 1, none⟩ = some (.iface b.ty b.pay) ∧ w3.cell? ⟨w.heap.size, 2, none⟩ = some (typV) ∧ w3.cell? ⟨w.heap.size + 1, 0, none⟩ = some (.iface c.ty c.pay) ∧ w3.cell? ⟨w.heap.size + 1, 1, none⟩ = some (.iface d.ty d.pay) ∧ w3.cell? ⟨w.heap.size + 1, 2, none⟩ = some (typV) ∧ Below w.heap.size w w3)
      replace hB := Aside0.mk hB
      have HB := hB
      clear hB
      go_wp2_with (first | ((with_reducible refine (cmp_ok _ _ _).mono ?_); rintro e W1 ⟨rfl, hb⟩; have n0 : W1.cell? ⟨w.heap.size, 0, none⟩ = some (.iface a.ty a.pay) := (pw_cell_below hb (by first | assumption | (simp [go_sem]; done))); have n1 : W1.cell? ⟨w.heap.size, 1, none⟩ = some (.iface b.ty b.pay) := (pw_cell_below hb (by first | assumption | (simp [go_sem]; done))); have n2 : W1.cell? ⟨w.heap.size, 2, none⟩ = some (typV) := (pw_cell_below hb (by first | assumption | (simp [go_sem]; done))); have n3 : W1.cell? ⟨w.heap.size + 1, 0, none⟩ = some (.iface c.ty c.pay) := (pw_cell_below hb (by first | assumption | (simp [go_sem]; done))); have n4 : W1.cell? ⟨w.heap.size + 1, 1, none⟩ = some (.iface d.ty d.pay) := (pw_cell_below hb (by first | assumption | (simp [go_sem]; done))); have n5 : W1.cell? ⟨w.heap.size + 1, 2, none⟩ = some (typV) := (pw_cell_below hb (by first | assumption | (simp [go_sem]; done))); have nB : Aside0 (Below w.heap.size w W1) := (Aside0.mk (below_step (by first | (with_reducible exact HB.out) | (repeat (first | (with_reducible exact HB.out) | (with_reducible exact Below.refl _ _) | (with_reducible apply below_alloc) | (with_reducible apply below_drew)))) hb)); (try clear c0); (try clear c1); (try clear c2); (try clear c3); (try clear c4); (try clear c5); (try clear HB); clear hb; have c0 := n0; clear n0; have c1 := n1; clear n1; have c2 := n2; clear n2; have c3 := n3; clear n3; have c4 := n4; clear n4; have c5 := n5; clear n5; have HB := nB; clear nB))
      go_ret2
      exact ⟨by simp [hm, hn], HB.out⟩
  · have hm := beq_eq_false_iff_ne.2 hm0
    clear hm0
    by_cases hn0 : cmpC b d = 1
    · have hn := beq_iff_eq.2 hn0
      clear hn0
      go_enter Tryd.func61, Tryd.ntmps61
      go_wp2
      go_region_held3 (fun W => W.cell? ⟨w.heap.size, 0, none⟩ = some (.iface a.ty a.pay) ∧ W.cell? ⟨w.heap.size, 1, none⟩ = some (.iface b.ty b.pay) ∧ W.cell? ⟨w.heap.size, 2, none⟩ = some (typV) ∧ W.cell? ⟨w.heap.size + 1, 0, none⟩ = some (.iface c.ty c.pay) ∧ W.cell? ⟨w.heap.size + 1, 1, none⟩ = some (.iface d.ty d.pay) ∧ W.cell? ⟨w.heap.size + 1, 2, none⟩ = some (typV) ∧ Below w.heap.size w W)
          (first | (go_split_ands; refine ⟨?_, ?_, ?_, ?_, ?_, ?_, ?_⟩ <;> assumption) | (go_split_ands; exact ⟨pw_cell_below hb (by assumption), pw_cell_below hb (by assumption), pw_cell_below hb (by assumption), pw_cell_below hb (by assumption), pw_cell_below hb (by assumption), pw_cell_below hb (by assumption), below_step (by assumption) hb⟩) | (refine ⟨?_, ?_, ?_, ?_, ?_, ?_, ?_⟩; (iterate 6 (focus (first | assumption | (simp [go_sem]; done) | (simp [go_sem, *]; done)))); (repeat (first | (with_reducible exact Below.refl _ _) | (with_reducible apply below_alloc) | (with_reducible apply below_drew) | (with_reducible exact HB.out)))))
          (first | (go_at_call 156; refine (str_ok _).mono ?_; rintro e w3 ⟨rfl, hb⟩))
      obtain ⟨c0, c1, c2, c3, c4, c5, hB⟩ := (by assumption : w3.cell? ⟨w.heap.size, 0, none⟩ = some (.iface a.ty a.pay) ∧ w3.cell? ⟨w.heap.size, 1, none⟩ = some (.iface b.ty b.pay) ∧ w3.cell? ⟨w.heap.size, 2, none⟩ = some (typV) ∧ w3.cell? ⟨w.heap.size + 1, 0, none⟩ = some (.iface c.ty c.pay) ∧ w3.cell? ⟨w.heap.size + 1, 1, none⟩ = some (.iface d.ty d.pay) ∧ w3.cell? ⟨w.heap.size + 1, 2, none⟩ = some (typV) ∧ Below w.heap.size w w3)
      replace hB := Aside0.mk hB
      have HB := hB
      clear hB
      go_wp2_with (first | ((with_reducible refine (cmp_ok _ _ _).mono ?_); rintro e W1 ⟨rfl, hb⟩; have n0 : W1.cell? ⟨w.heap.size, 0, none⟩ = some (.iface a.ty a.pay) := (pw_cell_below hb (by first | assumption | (simp [go_sem]; done))); have n1 : W1.cell? ⟨w.heap.size, 1, none⟩ = some (.iface b.ty b.pay) := (pw_cell_below hb (by first | assumption | (simp [go_sem]; done))); have n2 : W1.cell? ⟨w.heap.size, 2, none⟩ = some (typV) := (pw_cell_below hb (by first | assumption | (simp [go_sem]; done))); have n3 : W1.cell? ⟨w.heap.size + 1, 0, none⟩ = some (.iface c.ty c.pay) := (pw_cell_below hb (by first | assumption | (simp [go_sem]; done))); have n4 : W1.cell? ⟨w.heap.size + 1, 1, none⟩ = some (.iface d.ty d.pay) := (pw_cell_below hb (by first | assumption | (simp [go_sem]; done))); have n5 : W1.cell? ⟨w.heap.size + 1, 2, none⟩ = some (typV) := (pw_cell_below hb (by first | assumption | (simp [go_sem]; done))); have nB : Aside0 (Below w.heap.size w W1) := (Aside0.mk (below_step (by first | (with_reducible exact HB.out) | (repeat (first | (with_reducible exact HB.out) | (with_reducible exact Below.refl _ _) | (with_reducible apply below_alloc) | (with_reducible apply below_drew)))) hb)); (try clear c0); (try clear c1); (try clear c2); (try clear c3); (try clear c4); (try clear c5); (try clear HB); clear hb; have c0 := n0; clear n0; have c1 := n1; clear n1; have c2 := n2; clear n2; have c3 := n3; clear n3; have c4 := n4; clear n4; have c5 := n5; clear n5; have HB := nB; clear nB))
      go_ret2
      exact ⟨by simp [hm, hn], HB.out⟩
    · have hn := beq_eq_false_iff_ne.2 hn0
      clear hn0
      go_enter Tryd.func61, Tryd.ntmps61
      go_wp2
      go_region_held3 (fun W => W.cell? ⟨w.heap.size, 0, none⟩ = some (.iface a.ty a.pay) ∧ W.cell? ⟨w.heap.size, 1, none⟩ = some (.iface b.ty b.pay) ∧ W.cell? ⟨w.heap.size, 2, none⟩ = some (typV) ∧ W.cell? ⟨w.heap.size + 1, 0, none⟩ = some (.iface c.ty c.pay) ∧ W.cell? ⟨w.heap.size + 1, 1, none⟩ = some (.iface d.ty d.pay) ∧ W.cell? ⟨w.heap.size + 1, 2, none⟩ = some (typV) ∧ Below w.heap.size w W)
          (first | (go_split_ands; refine ⟨?_, ?_, ?_, ?_, ?_, ?_, ?_⟩ <;> assumption) | (go_split_ands; exact ⟨pw_cell_below hb (by assumption), pw_cell_below hb (by assumption), pw_cell_below hb (by assumption), pw_cell_below hb (by assumption), pw_cell_below hb (by assumption), pw_cell_below hb (by assumption), below_step (by assumption) hb⟩) | (refine ⟨?_, ?_, ?_, ?_, ?_, ?_, ?_⟩; (iterate 6 (focus (first | assumption | (simp [go_sem]; done) | (simp [go_sem, *]; done)))); (repeat (first | (with_reducible exact Below.refl _ _) | (with_reducible apply below_alloc) | (with_reducible apply below_drew) | (with_reducible exact HB.out)))))
          (first | (go_at_call 156; refine (str_ok _).mono ?_; rintro e w3 ⟨rfl, hb⟩))
      obtain ⟨c0, c1, c2, c3, c4, c5, hB⟩ := (by assumption : w3.cell? ⟨w.heap.size, 0, none⟩ = some (.iface a.ty a.pay) ∧ w3.cell? ⟨w.heap.size, 1, none⟩ = some (.iface b.ty b.pay) ∧ w3.cell? ⟨w.heap.size, 2, none⟩ = some (typV) ∧ w3.cell? ⟨w.heap.size + 1, 0, none⟩ = some (.iface c.ty c.pay) ∧ w3.cell? ⟨w.heap.size + 1, 1, none⟩ = some (.iface d.ty d.pay) ∧ w3.cell? ⟨w.heap.size + 1, 2, none⟩ = some (typV) ∧ Below w.heap.size w w3)
      replace hB := Aside0.mk hB
      have HB := hB
      clear hB
      go_wp2_with (first | ((with_reducible refine (cmp_ok _ _ _).mono ?_); rintro e W1 ⟨rfl, hb⟩; have n0 : W1.cell? ⟨w.heap.size, 0, none⟩ = some (.iface a.ty a.pay) := (pw_cell_below hb (by first | assumption | (simp [go_sem]; done))); have n1 : W1.cell? ⟨w.heap.size, 1, none⟩ = some (.iface b.ty b.pay) := (pw_cell_below hb (by first | assumption | (simp [go_sem]; done))); have n2 : W1.cell? ⟨w.heap.size, 2, none⟩ = some (typV) := (pw_cell_below hb (by first | assumption | (simp [go_sem]; done))); have n3 : W1.cell? ⟨w.heap.size + 1, 0, none⟩ = some (.iface c.ty c.pay) := (pw_cell_below hb (by first | assumption | (simp [go_sem]; done))); have n4 : W1.cell? ⟨w.heap.size + 1, 1, none⟩ = some (.iface d.ty d.pay) := (pw_cell_below hb (by first | assumption | (simp [go_sem]; done))); have n5 : W1.cell? ⟨w.heap.size + 1, 2, none⟩ = some (typV) := (pw_cell_below hb (by first | assumption | (simp [go_sem]; done))); have nB : Aside0 (Below w.heap.size w W1) := (Aside0.mk (below_step (by first | (with_reducible exact HB.out) | (repeat (first | (with_reducible exact HB.out) | (with_reducible exact Below.refl _ _) | (with_reducible apply below_alloc) | (with_reducible apply below_drew)))) hb)); (try clear c0); (try clear c1); (try clear c2); (try clear c3); (try clear c4); (try clear c5); (try clear HB); clear hb; have c0 := n0; clear n0; have c1 := n1; clear n1; have c2 := n2; clear n2; have c3 := n3; clear n3; have c4 := n4; clear n4; have c5 := n5; clear n5; have HB := nB; clear nB))
      go_ret2
      exact ⟨by simp [hm, hn], HB.out⟩

theorem isSupersetOf_ok (a b c d : C) (w : World) :
    Calls Tryd.prog 62 #[.agg #[.iface a.ty a.pay, .iface b.ty b.pay, typV], .agg #[.iface c.ty c.pay, .iface d.ty d.pay, typV]] w fun e w' => e = .returned (.tuple #[.bool (!(cmpC c a == -1) && !(cmpC d b == 1)), .nilIface]) ∧ Below w.heap.size w w' := by
  go_enter Tryd.func62, Tryd.ntmps62
  go_wp2_with (first | (go_at_call 61; refine (isSubsetOf_ok _ _ _ _ _).mono ?_; rintro e W1 ⟨rfl, hb⟩; have n0 : W1.cell? ⟨w.heap.size, 0, none⟩ = some (.iface a.ty a.pay) := (pw_cell_below hb (by first | assumption | (simp [go_sem]; done))); have n1 : W1.cell? ⟨w.heap.size, 1, none⟩ = some (.iface b.ty b.pay) := (pw_cell_below hb (by first | assumption | (simp [go_sem]; done))); have n2 : W1.cell? ⟨w.heap.size, 2, none⟩ = some (typV) := (pw_cell_below hb (by first | assumption | (simp [go_sem]; done))); have n3 : W1.cell? ⟨w.heap.size + 1, 0, none⟩ = some (.iface c.ty c.pay) := (pw_cell_below hb (by first | assumption | (simp [go_sem]; done))); have n4 : W1.cell? ⟨w.heap.size + 1, 1, none⟩ = some (.iface d.ty d.pay) := (pw_cell_below hb (by first | assumption | (simp [go_sem]; done))); have n5 : W1.cell? ⟨w.heap.size + 1, 2, none⟩ = some (typV) := (pw_cell_below hb (by first | assumption | (simp [go_sem]; done))); have nB : Aside0 (Below w.heap.size w W1) := (Aside0.mk (below_step (by first | (with_reducible exact HB.out) | (repeat (first | (with_reducible exact HB.out) | (with_reducible exact Below.refl _ _) | (with_reducible apply below_alloc) | (with_reducible apply below_drew)))) hb)); (try clear c0); (try clear c1); (try clear c2); (try clear c3); (try clear c4); (try clear c5); (try clear HB); clear hb; have c0 := n0; clear n0; have c1 := n1; clear n1; have c2 := n2; clear n2; have c3 := n3; clear n3; have c4 := n4; clear n4; have c5 := n5; clear n5; have HB := nB; clear nB))
  go_ret2
  exact ⟨rfl, HB.out⟩
end Go.Proofs.YtlcoodjkolponaaDoor.PRG
