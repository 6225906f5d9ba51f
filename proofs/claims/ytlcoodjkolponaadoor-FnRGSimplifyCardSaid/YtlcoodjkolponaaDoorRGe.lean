/-
  Contracts of impl.RGMax, RGMin and cutOf. Condition: from 1 to 1000 positions.
-/
import Derived.Test.YtlcoodjkolponaaDoorRGd
namespace Go.Proofs.YtlcoodjkolponaaDoor.PRG
open Go.RowKit Go.Proofs.YtlcoodjkolponaaDoorW.PrintWords Go.Proofs.YtlcoodjkolponaaDoorW.PrintLast Go.Proofs.YtlcoodjkolponaaDoorW.PrintMore
set_option linter.unusedVariables false
set_option maxRecDepth 100000

theorem turned_cut' (A0 : Option Addr) (c0 : Nat) (l : List S23) (w : World) (hr0 : Kd.C k23 w A0 l.length l) (hl : l.length ≤ 1000) :
    Calls Tryd.prog 50 #[.slice A0 l.length c0, .func (.func 48) #[] #[]] w fun e w' => ∃ A c, e = .returned (.slice A l.length c) ∧ Kd.C kC w' A l.length (l.map cutOfS) ∧ Below w.heap.size w w' := by
  refine (turned_cut A0 c0 l w hr0 hl).mono ?_
  rintro e w' ⟨v, rfl, ho, hb⟩
  obtain ⟨A, c, rfl, hc, hC⟩ := Kd.R_reads ho
  rw [List.length_map] at hC ⊢
  exact ⟨A, c, rfl, hC, hb⟩

theorem getMax' (A0 : Option Addr) (c0 : Nat) (l : List C) (n : Nat) (w : World) (hr0 : Kd.C kC w A0 n l) (hl : n ≤ 1000) (h0 : 0 < n) :
    Calls Tryd.prog 49 #[typV, .slice A0 n c0] w fun e w' => e = .returned (.tuple #[.iface (mostC (-1) l).ty (mostC (-1) l).pay, .nilIface]) ∧ Below w.heap.size w w' := by
  obtain rfl := Kd.C_len hr0
  exact getMax A0 c0 l w hr0 hl h0
theorem getMin' (A0 : Option Addr) (c0 : Nat) (l : List C) (n : Nat) (w : World) (hr0 : Kd.C kC w A0 n l) (hl : n ≤ 1000) (h0 : 0 < n) :
    Calls Tryd.prog 52 #[typV, .slice A0 n c0] w fun e w' => e = .returned (.tuple #[.iface (mostC 1 l).ty (mostC 1 l).pay, .nilIface]) ∧ Below w.heap.size w w' := by
  obtain rfl := Kd.C_len hr0
  exact getMin A0 c0 l w hr0 hl h0

theorem cutOf_ok (c : C) (w : World) :
    Calls Tryd.prog 51 #[.iface c.ty c.pay] w fun e w' => e = .returned (.agg #[.int .i64 c.kind, .int .i64 c.key]) ∧ Below w.heap.size w w' := by
  cases c
  all_goals
    simp only [C.ty, C.pay, C.kind, C.key]
    go_enter Tryd.func51, Tryd.ntmps51
    go_wp2
    refine bodyPost_ret (v := .agg #[.int .i64 _, .int .i64 _]) (by simp [results, Tryd.results51, go_sem]) rfl ⟨rfl, (by repeat (first | (with_reducible exact Below.refl _ _) | (with_reducible apply below_alloc) | (with_reducible apply below_drew) | (refine Below.setCell ?_ (by simp) _)))⟩

set_option maxHeartbeats 1000000 in
theorem RGMax_ok (A0 : Option Addr) (c0 : Nat) (l : List S23) (w : World) (hr0 : Kd.C k23 w A0 l.length l) (hl : l.length ≤ 1000) (h0 : 0 < l.length) :
    Calls Tryd.prog 14 #[.slice A0 l.length c0] w fun e w' => e = .returned (.tuple #[.agg #[.int .i64 (mostC (-1) (l.map cutOfS)).kind, .int .i64 (mostC (-1) (l.map cutOfS)).key], .bool true]) ∧ Below w.heap.size w w' := by
  have HR := Aside0.mk hr0
  clear hr0
  generalize hm : mostC (-1) (l.map cutOfS) = m
  have HM := Aside0.mk hm
  clear hm
  go_enter_defers Tryd.func14, Tryd.ntmps14
  go_wp2
  go_region_held3 (fun W => W.cell? ⟨w.heap.size, 0, none⟩ = some (.int .i64 0) ∧ W.cell? ⟨w.heap.size, 1, none⟩ = some (.int .i64 0) ∧ W.cell? ⟨w.heap.size + 1, 0, none⟩ = some (.bool false) ∧ W.frozen? ⟨w.heap.size, 0, none⟩ = false ∧ W.frozen? ⟨w.heap.size, 1, none⟩ = false ∧ W.frozen? ⟨w.heap.size + 1, 0, none⟩ = false ∧ Below w.heap.size w W)
    (first | (go_split_ands; refine ⟨?_, ?_, ?_, ?_, ?_, ?_, ?_⟩ <;> assumption) | (go_split_ands; exact ⟨pw_cell_below hb (by assumption), pw_cell_below hb (by assumption), pw_cell_below hb (by assumption), keep_frozen hb (by assumption) (by assumption), keep_frozen hb (by assumption) (by assumption), keep_frozen hb (by assumption) (by assumption), below_step (by assumption) hb⟩) | (refine ⟨?_, ?_, ?_, ?_, ?_, ?_, ?_⟩; (iterate 6 (focus (first | assumption | (simp [go_sem]; done) | (simp [go_sem, *]; done)))); (repeat (first | (with_reducible exact Below.refl _ _) | (with_reducible apply below_alloc) | (with_reducible apply below_drew) | (with_reducible exact HB.out)))))
    (first | (go_at_call 50; refine (turned_cut' _ _ l _ (Kd.C_below HR.out (by first | (go_split_ands; assumption) | (repeat (first | (with_reducible exact Below.refl _ _) | (with_reducible apply below_alloc) | (with_reducible apply below_drew))))) hl).mono ?_; rintro e w3 ⟨A, c, rfl, hC, hb⟩; replace hC := Aside0.mk hC) | (go_at_call 49; refine (getMax' _ _ _ _ _ hC.out hl h0).mono ?_; rintro e w4 ⟨rfl, hb⟩))
  all_goals
    obtain ⟨c0, c1, c2, z0, z1, z2, hB⟩ := (by assumption : w4.cell? ⟨w.heap.size, 0, none⟩ = some (.int .i64 0) ∧ w4.cell? ⟨w.heap.size, 1, none⟩ = some (.int .i64 0) ∧ w4.cell? ⟨w.heap.size + 1, 0, none⟩ = some (.bool false) ∧ w4.frozen? ⟨w.heap.size, 0, none⟩ = false ∧ w4.frozen? ⟨w.heap.size, 1, none⟩ = false ∧ w4.frozen? ⟨w.heap.size + 1, 0, none⟩ = false ∧ Below w.heap.size w w4)
    have HB := Aside0.mk hB
    rw [HM.out]
    clear hB hb hC HR HM
  all_goals go_wp2_with (first | (go_at_call 51; refine (cutOf_ok _ _).mono ?_; rintro e W1 ⟨rfl, hb⟩; have n0 : W1.cell? ⟨w.heap.size, 0, none⟩ = some (.int .i64 0) := (pw_cell_below hb (by first | assumption | (simp [go_sem]; done))); have n1 : W1.cell? ⟨w.heap.size, 1, none⟩ = some (.int .i64 0) := (pw_cell_below hb (by first | assumption | (simp [go_sem]; done))); have n2 : W1.cell? ⟨w.heap.size + 1, 0, none⟩ = some (.bool false) := (pw_cell_below hb (by first | assumption | (simp [go_sem]; done))); have m0 : W1.frozen? ⟨w.heap.size, 0, none⟩ = false := (keep_frozen (v := .int .i64 0) hb (by first | assumption | (simp [go_sem]; done)) (by first | assumption | (simp [go_sem]; done))); have m1 : W1.frozen? ⟨w.heap.size, 1, none⟩ = false := (keep_frozen (v := .int .i64 0) hb (by first | assumption | (simp [go_sem]; done)) (by first | assumption | (simp [go_sem]; done))); have m2 : W1.frozen? ⟨w.heap.size + 1, 0, none⟩ = false := (keep_frozen (v := .bool false) hb (by first | assumption | (simp [go_sem]; done)) (by first | assumption | (simp [go_sem]; done))); have nB : Aside0 (Below w.heap.size w W1) := (Aside0.mk (below_step (by first | (with_reducible exact HB.out) | (repeat (first | (with_reducible exact HB.out) | (with_reducible exact Below.refl _ _) | (with_reducible apply below_alloc) | (with_reducible apply below_drew)))) hb)); (try clear c0); (try clear c1); (try clear c2); (try clear z0); (try clear z1); (try clear z2); (try clear HB); clear hb; have c0 := n0; clear n0; have c1 := n1; clear n1; have c2 := n2; clear n2; have z0 := m0; clear m0; have z1 := m1; clear m1; have z2 := m2; clear m2; have HB := nB; clear nB))
  all_goals exact ends_caught (v := .tuple #[.agg #[.int .i64 m.kind, .int .i64 m.key], .bool true]) (by simp [results, Tryd.results14, go_sem, *]) ⟨rfl, (by repeat (first | (with_reducible exact HB.out) | (with_reducible exact Below.refl _ _) | (with_reducible apply below_alloc) | (with_reducible apply below_drew) | (refine Below.setCell ?_ (by simp) _)))⟩

set_option maxHeartbeats 1000000 in
theorem RGMin_ok (A0 : Option Addr) (c0 : Nat) (l : List S23) (w : World) (hr0 : Kd.C k23 w A0 l.length l) (hl : l.length ≤ 1000) (h0 : 0 < l.length) :
    Calls Tryd.prog 15 #[.slice A0 l.length c0] w fun e w' => e = .returned (.tuple #[.agg #[.int .i64 (mostC (1) (l.map cutOfS)).kind, .int .i64 (mostC (1) (l.map cutOfS)).key], .bool true]) ∧ Below w.heap.size w w' := by
  have HR := Aside0.mk hr0
  clear hr0
  generalize hm : mostC (1) (l.map cutOfS) = m
  have HM := Aside0.mk hm
  clear hm
  go_enter_defers Tryd.func15, Tryd.ntmps15
  go_wp2
  go_region_held3 (fun W => W.cell? ⟨w.heap.size, 0, none⟩ = some (.int .i64 0) ∧ W.cell? ⟨w.heap.size, 1, none⟩ = some (.int .i64 0) ∧ W.cell? ⟨w.heap.size + 1, 0, none⟩ = some (.bool false) ∧ W.frozen? ⟨w.heap.size, 0, none⟩ = false ∧ W.frozen? ⟨w.heap.size, 1, none⟩ = false ∧ W.frozen? ⟨w.heap.size + 1, 0, none⟩ = false ∧ Below w.heap.size w W)
    (first | (go_split_ands; refine ⟨?_, ?_, ?_, ?_, ?_, ?_, ?_⟩ <;> assumption) | (go_split_ands; exact ⟨pw_cell_below hb (by assumption), pw_cell_below hb (by assumption), pw_cell_below hb (by assumption), keep_frozen hb (by assumption) (by assumption), keep_frozen hb (by assumption) (by assumption), keep_frozen hb (by assumption) (by assumption), below_step (by assumption) hb⟩) | (refine ⟨?_, ?_, ?_, ?_, ?_, ?_, ?_⟩; (iterate 6 (focus (first | assumption | (simp [go_sem]; done) | (simp [go_sem, *]; done)))); (repeat (first | (with_reducible exact Below.refl _ _) | (with_reducible apply below_alloc) | (with_reducible apply below_drew) | (with_reducible exact HB.out)))))
    (first | (go_at_call 50; refine (turned_cut' _ _ l _ (Kd.C_below HR.out (by first | (go_split_ands; assumption) | (repeat (first | (with_reducible exact Below.refl _ _) | (with_reducible apply below_alloc) | (with_reducible apply below_drew))))) hl).mono ?_; rintro e w3 ⟨A, c, rfl, hC, hb⟩; replace hC := Aside0.mk hC) | (go_at_call 52; refine (getMin' _ _ _ _ _ hC.out hl h0).mono ?_; rintro e w4 ⟨rfl, hb⟩))
  all_goals
    obtain ⟨c0, c1, c2, z0, z1, z2, hB⟩ := (by assumption : w4.cell? ⟨w.heap.size, 0, none⟩ = some (.int .i64 0) ∧ w4.cell? ⟨w.heap.size, 1, none⟩ = some (.int .i64 0) ∧ w4.cell? ⟨w.heap.size + 1, 0, none⟩ = some (.bool false) ∧ w4.frozen? ⟨w.heap.size, 0, none⟩ = false ∧ w4.frozen? ⟨w.heap.size, 1, none⟩ = false ∧ w4.frozen? ⟨w.heap.size + 1, 0, none⟩ = false ∧ Below w.heap.size w w4)
    have HB := Aside0.mk hB
    rw [HM.out]
    clear hB hb hC HR HM
  all_goals go_wp2_with (first | (go_at_call 51; refine (cutOf_ok _ _).mono ?_; rintro e W1 ⟨rfl, hb⟩; have n0 : W1.cell? ⟨w.heap.size, 0, none⟩ = some (.int .i64 0) := (pw_cell_below hb (by first | assumption | (simp [go_sem]; done))); have n1 : W1.cell? ⟨w.heap.size, 1, none⟩ = some (.int .i64 0) := (pw_cell_below hb (by first | assumption | (simp [go_sem]; done))); have n2 : W1.cell? ⟨w.heap.size + 1, 0, none⟩ = some (.bool false) := (pw_cell_below hb (by first | assumption | (simp [go_sem]; done))); have m0 : W1.frozen? ⟨w.heap.size, 0, none⟩ = false := (keep_frozen (v := .int .i64 0) hb (by first | assumption | (simp [go_sem]; done)) (by first | assumption | (simp [go_sem]; done))); have m1 : W1.frozen? ⟨w.heap.size, 1, none⟩ = false := (keep_frozen (v := .int .i64 0) hb (by first | assumption | (simp [go_sem]; done)) (by first | assumption | (simp [go_sem]; done))); have m2 : W1.frozen? ⟨w.heap.size + 1, 0, none⟩ = false := (keep_frozen (v := .bool false) hb (by first | assumption | (simp [go_sem]; done)) (by first | assumption | (simp [go_sem]; done))); have nB : Aside0 (Below w.heap.size w W1) := (Aside0.mk (below_step (by first | (with_reducible exact HB.out) | (repeat (first | (with_reducible exact HB.out) | (with_reducible exact Below.refl _ _) | (with_reducible apply below_alloc) | (with_reducible apply below_drew)))) hb)); (try clear c0); (try clear c1); (try clear c2); (try clear z0); (try clear z1); (try clear z2); (try clear HB); clear hb; have c0 := n0; clear n0; have c1 := n1; clear n1; have c2 := n2; clear n2; have z0 := m0; clear m0; have z1 := m1; clear m1; have z2 := m2; clear m2; have HB := nB; clear nB))
  all_goals exact ends_caught (v := .tuple #[.agg #[.int .i64 m.kind, .int .i64 m.key], .bool true]) (by simp [results, Tryd.results15, go_sem, *]) ⟨rfl, (by repeat (first | (with_reducible exact HB.out) | (with_reducible exact Below.refl _ _) | (with_reducible apply below_alloc) | (with_reducible apply below_drew) | (refine Below.setCell ?_ (by simp) _)))⟩
end Go.Proofs.YtlcoodjkolponaaDoor.PRG
