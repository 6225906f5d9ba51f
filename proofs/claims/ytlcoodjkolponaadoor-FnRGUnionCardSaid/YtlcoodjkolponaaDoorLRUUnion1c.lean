-- written by gprint.py, a program of this claim's own, by means of the kit's print
import Derived.Test.YtlcoodjkolponaaDoorLRUUnion0d
namespace Go.Proofs.YtlcoodjkolponaaDoor.PRU
open Go.RowKit Go.Proofs.YtlcoodjkolponaaDoorW.PrintWords Go.Proofs.YtlcoodjkolponaaDoorW.PrintLast Go.Proofs.YtlcoodjkolponaaDoorW.PrintMore
attribute [local go_sem] max2_int min2_int max_two min_two max_three min_three max_four min_four   -- for this text's walks alone
set_option linter.unusedVariables false
set_option linter.unusedSimpArgs false
open Go.Proofs.YtlcoodjkolponaaDoorW.PrintWords renaming blk_drewN → bN, blk_drew → bD, blk_alloc → bA, below_set → wS, below_alloc → wA, pw_below_drewN → wN, below_drew1 → wD, below_step → wP, blk_below → bB, blk_lt → bL, gate_callee → gC
open Go.Proofs.YtlcoodjkolponaaDoorW.PrintLast renaming goesL_ → gL
open Go.Proofs.YtlcoodjkolponaaDoorW.PrintWords.Aside0 renaming mk → aM
set_option maxHeartbeats 8000000 in
set_option maxRecDepth 100000 in
theorem laws_FnRGUnion.calls1 (k : Nat) (a0_0 : Int) (a0_1 : Int) (a0_2 : Int) (a0_3 : Int) (a1_0 : Int) (a1_1 : Int) (a1_2 : Int) (a1_3 : Int) (r : Bool) (w : World) (hr1 : r = true) (hno : ∀ p q s t x y z u e0 e1 e2 e3, laws_rgFull.f k a0_0 a0_1 a0_2 a0_3 = some (p, q, s, t) → laws_rgFull.f k a1_0 a1_1 a1_2 a1_3 = some (x, y, z, u) → impl_RGUnion.f p q s t x y z u ≠ some (e0, e1, e2, e3, true, true)) (h : laws_FnRGUnion.f k a0_0 a0_1 a0_2 a0_3 a1_0 a1_1 a1_2 a1_3 = some r) :
  Calls Tryd.prog 6 #[.agg #[.int .i64 a0_0, .int .i64 a0_1, .int .i64 a0_2, .int .i64 a0_3], .agg #[.int .i64 a1_0, .int .i64 a1_1, .int .i64 a1_2, .int .i64 a1_3]] w fun e w' => e = .returned (.bool r) ∧ Below w.heap.size w w' := by
 have H0 := Tryd.underlying44
 have HB := aM (Below.refl w.heap.size w)
 have H : ((laws_rgFull.f k a0_0 a0_1 a0_2 a0_3).bind fun e4 => ((laws_rgFull.f k a1_0 a1_1 a1_2 a1_3).bind fun f1 => ((impl_RGUnion.f e4.1 e4.2.1 e4.2.2.1 e4.2.2.2 f1.1 f1.2.1 f1.2.2.1 f1.2.2.2).bind fun f6 => ((impl_RGUnion.f e4.1 e4.2.1 e4.2.2.1 e4.2.2.2 e4.1 e4.2.1 e4.2.2.1 e4.2.2.2).bind fun c9 => (if f6.2.2.2.2.2 = true then (if c9.2.2.2.2.2 = true then ((spec_RGTouch.f k e4.1 e4.2.1 e4.2.2.1 e4.2.2.2 f1.1 f1.2.1 f1.2.2.1 f1.2.2.2).bind fun f9 => (if (f6.2.2.2.2.1 == f9) = true then (if f6.2.2.2.2.1 = true then ((spec_RGHull.f k e4.1 e4.2.1 e4.2.2.1 e4.2.2.2 f1.1 f1.2.1 f1.2.2.1 f1.2.2.2).bind fun d1 => ((spec_RGSame.f k f6.1 f6.2.1 f6.2.2.1 f6.2.2.2.1 d1.1 d1.2.1 d1.2.2.1 d1.2.2.2).bind fun g0 => (if g0 = true then (if c9.2.2.2.2.1 = true then ((spec_RGSame.f k c9.1 c9.2.1 c9.2.2.1 c9.2.2.2.1 e4.1 e4.2.1 e4.2.2.1 e4.2.2.2).bind fun f8 => (some f8)) else (some false)) else (some false)))) else (if c9.2.2.2.2.1 = true then ((spec_RGSame.f k c9.1 c9.2.1 c9.2.2.1 c9.2.2.2.1 e4.1 e4.2.1 e4.2.2.1 e4.2.2.2).bind fun g1 => (some g1)) else (some false))) else (some false))) else (some false)) else (some false)))))) = some r := h
 clear h
 replace H := Option.bind_eq_some_iff.mp H
 obtain ⟨⟨b4, b5, b6, b7⟩, A30, H⟩ := H
 replace H : ((laws_rgFull.f k a1_0 a1_1 a1_2 a1_3).bind fun f1 => ((impl_RGUnion.f b4 b5 b6 b7 f1.1 f1.2.1 f1.2.2.1 f1.2.2.2).bind fun f6 => ((impl_RGUnion.f b4 b5 b6 b7 b4 b5 b6 b7).bind fun c9 => (if f6.2.2.2.2.2 = true then (if c9.2.2.2.2.2 = true then ((spec_RGTouch.f k b4 b5 b6 b7 f1.1 f1.2.1 f1.2.2.1 f1.2.2.2).bind fun f9 => (if (f6.2.2.2.2.1 == f9) = true then (if f6.2.2.2.2.1 = true then ((spec_RGHull.f k b4 b5 b6 b7 f1.1 f1.2.1 f1.2.2.1 f1.2.2.2).bind fun d1 => ((spec_RGSame.f k f6.1 f6.2.1 f6.2.2.1 f6.2.2.2.1 d1.1 d1.2.1 d1.2.2.1 d1.2.2.2).bind fun g0 => (if g0 = true then (if c9.2.2.2.2.1 = true then ((spec_RGSame.f k c9.1 c9.2.1 c9.2.2.1 c9.2.2.2.1 b4 b5 b6 b7).bind fun f8 => (some f8)) else (some false)) else (some false)))) else (if c9.2.2.2.2.1 = true then ((spec_RGSame.f k c9.1 c9.2.1 c9.2.2.1 c9.2.2.2.1 b4 b5 b6 b7).bind fun g1 => (some g1)) else (some false))) else (some false))) else (some false)) else (some false))))) = some r := H
 have A3 := aM A30
 clear A30
 replace H := Option.bind_eq_some_iff.mp H
 obtain ⟨⟨d4, d5, d6, d7⟩, A40, H⟩ := H
 replace H : ((impl_RGUnion.f b4 b5 b6 b7 d4 d5 d6 d7).bind fun f6 => ((impl_RGUnion.f b4 b5 b6 b7 b4 b5 b6 b7).bind fun c9 => (if f6.2.2.2.2.2 = true then (if c9.2.2.2.2.2 = true then ((spec_RGTouch.f k b4 b5 b6 b7 d4 d5 d6 d7).bind fun f9 => (if (f6.2.2.2.2.1 == f9) = true then (if f6.2.2.2.2.1 = true then ((spec_RGHull.f k b4 b5 b6 b7 d4 d5 d6 d7).bind fun d1 => ((spec_RGSame.f k f6.1 f6.2.1 f6.2.2.1 f6.2.2.2.1 d1.1 d1.2.1 d1.2.2.1 d1.2.2.2).bind fun g0 => (if g0 = true then (if c9.2.2.2.2.1 = true then ((spec_RGSame.f k c9.1 c9.2.1 c9.2.2.1 c9.2.2.2.1 b4 b5 b6 b7).bind fun f8 => (some f8)) else (some false)) else (some false)))) else (if c9.2.2.2.2.1 = true then ((spec_RGSame.f k c9.1 c9.2.1 c9.2.2.1 c9.2.2.2.1 b4 b5 b6 b7).bind fun g1 => (some g1)) else (some false))) else (some false))) else (some false)) else (some false)))) = some r := H
 have A4 := aM A40
 clear A40
 replace H := Option.bind_eq_some_iff.mp H
 obtain ⟨⟨g3, g4, g5, g6, g2, n0⟩, A50, H⟩ := H
 replace H : ((impl_RGUnion.f b4 b5 b6 b7 b4 b5 b6 b7).bind fun c9 => (if n0 = true then (if c9.2.2.2.2.2 = true then ((spec_RGTouch.f k b4 b5 b6 b7 d4 d5 d6 d7).bind fun f9 => (if (g2 == f9) = true then (if g2 = true then ((spec_RGHull.f k b4 b5 b6 b7 d4 d5 d6 d7).bind fun d1 => ((spec_RGSame.f k g3 g4 g5 g6 d1.1 d1.2.1 d1.2.2.1 d1.2.2.2).bind fun g0 => (if g0 = true then (if c9.2.2.2.2.1 = true then ((spec_RGSame.f k c9.1 c9.2.1 c9.2.2.1 c9.2.2.2.1 b4 b5 b6 b7).bind fun f8 => (some f8)) else (some false)) else (some false)))) else (if c9.2.2.2.2.1 = true then ((spec_RGSame.f k c9.1 c9.2.1 c9.2.2.1 c9.2.2.2.1 b4 b5 b6 b7).bind fun g1 => (some g1)) else (some false))) else (some false))) else (some false)) else (some false))) = some r := H
 have A5 := aM A50
 clear A50
 replace H := Option.bind_eq_some_iff.mp H
 obtain ⟨⟨e5, e6, f2, f5, g7, n1⟩, A60, H⟩ := H
 replace H : (if n0 = true then (if n1 = true then ((spec_RGTouch.f k b4 b5 b6 b7 d4 d5 d6 d7).bind fun f9 => (if (g2 == f9) = true then (if g2 = true then ((spec_RGHull.f k b4 b5 b6 b7 d4 d5 d6 d7).bind fun d1 => ((spec_RGSame.f k g3 g4 g5 g6 d1.1 d1.2.1 d1.2.2.1 d1.2.2.2).bind fun g0 => (if g0 = true then (if g7 = true then ((spec_RGSame.f k e5 e6 f2 f5 b4 b5 b6 b7).bind fun f8 => (some f8)) else (some false)) else (some false)))) else (if g7 = true then ((spec_RGSame.f k e5 e6 f2 f5 b4 b5 b6 b7).bind fun g1 => (some g1)) else (some false))) else (some false))) else (some false)) else (some false)) = some r := H
 have A6 := aM A60
 clear A60
 by_cases c7 : n0 = true
 ·subst c7
  have H1 : (if n1 = true then ((spec_RGTouch.f k b4 b5 b6 b7 d4 d5 d6 d7).bind fun f9 => (if (g2 == f9) = true then (if g2 = true then ((spec_RGHull.f k b4 b5 b6 b7 d4 d5 d6 d7).bind fun d1 => ((spec_RGSame.f k g3 g4 g5 g6 d1.1 d1.2.1 d1.2.2.1 d1.2.2.2).bind fun g0 => (if g0 = true then (if g7 = true then ((spec_RGSame.f k e5 e6 f2 f5 b4 b5 b6 b7).bind fun f8 => (some f8)) else (some false)) else (some false)))) else (if g7 = true then ((spec_RGSame.f k e5 e6 f2 f5 b4 b5 b6 b7).bind fun g1 => (some g1)) else (some false))) else (some false))) else (some false)) = some r := by rw [if_pos rfl] at H; exact H
  clear H
  have H := H1
  clear H1
  by_cases c8 : n1 = true
  ·subst c8
   have H1 : ((spec_RGTouch.f k b4 b5 b6 b7 d4 d5 d6 d7).bind fun f9 => (if (g2 == f9) = true then (if g2 = true then ((spec_RGHull.f k b4 b5 b6 b7 d4 d5 d6 d7).bind fun d1 => ((spec_RGSame.f k g3 g4 g5 g6 d1.1 d1.2.1 d1.2.2.1 d1.2.2.2).bind fun g0 => (if g0 = true then (if g7 = true then ((spec_RGSame.f k e5 e6 f2 f5 b4 b5 b6 b7).bind fun f8 => (some f8)) else (some false)) else (some false)))) else (if g7 = true then ((spec_RGSame.f k e5 e6 f2 f5 b4 b5 b6 b7).bind fun g1 => (some g1)) else (some false))) else (some false))) = some r := by rw [if_pos rfl] at H; exact H
   clear H
   have H := H1
   clear H1
   replace H := Option.bind_eq_some_iff.mp H
   obtain ⟨f9, A90, H⟩ := H
   replace H : (if (g2 == f9) = true then (if g2 = true then ((spec_RGHull.f k b4 b5 b6 b7 d4 d5 d6 d7).bind fun d1 => ((spec_RGSame.f k g3 g4 g5 g6 d1.1 d1.2.1 d1.2.2.1 d1.2.2.2).bind fun g0 => (if g0 = true then (if g7 = true then ((spec_RGSame.f k e5 e6 f2 f5 b4 b5 b6 b7).bind fun f8 => (some f8)) else (some false)) else (some false)))) else (if g7 = true then ((spec_RGSame.f k e5 e6 f2 f5 b4 b5 b6 b7).bind fun g1 => (some g1)) else (some false))) else (some false)) = some r := H
   have A9 := aM A90
   clear A90
   by_cases c10 : (g2 == f9) = true
   ·rw [if_pos c10] at H
    have c10b0 : (g2 == f9) = true := c10
    (try (have c10b1 : decide (g2 = f9) = true := by simpa using c10))
    (try (have c10b2 : (g2 == f9) = true := by simpa using c10))
    clear c10
    by_cases c11 : g2 = true
    ·subst c11
     have H1 : ((spec_RGHull.f k b4 b5 b6 b7 d4 d5 d6 d7).bind fun d1 => ((spec_RGSame.f k g3 g4 g5 g6 d1.1 d1.2.1 d1.2.2.1 d1.2.2.2).bind fun g0 => (if g0 = true then (if g7 = true then ((spec_RGSame.f k e5 e6 f2 f5 b4 b5 b6 b7).bind fun f8 => (some f8)) else (some false)) else (some false)))) = some r := by rw [if_pos rfl] at H; exact H
     clear H
     have H := H1
     clear H1
     replace H := Option.bind_eq_some_iff.mp H
     obtain ⟨⟨o3, o4, o5, o6⟩, n6, H⟩ := H
     replace H : ((spec_RGSame.f k g3 g4 g5 g6 o3 o4 o5 o6).bind fun g0 => (if g0 = true then (if g7 = true then ((spec_RGSame.f k e5 e6 f2 f5 b4 b5 b6 b7).bind fun f8 => (some f8)) else (some false)) else (some false))) = some r := H
     have A12 := aM n6
     clear n6
     replace H := Option.bind_eq_some_iff.mp H
     obtain ⟨g0, n7, H⟩ := H
     replace H : (if g0 = true then (if g7 = true then ((spec_RGSame.f k e5 e6 f2 f5 b4 b5 b6 b7).bind fun f8 => (some f8)) else (some false)) else (some false)) = some r := H
     have A13 := aM n7
     clear n7
     by_cases c14 : g0 = true
     ·subst c14
      have H1 : (if g7 = true then ((spec_RGSame.f k e5 e6 f2 f5 b4 b5 b6 b7).bind fun f8 => (some f8)) else (some false)) = some r := by rw [if_pos rfl] at H; exact H
      clear H
      have H := H1
      clear H1
      by_cases c15 : g7 = true
      ·subst c15
       have H1 : ((spec_RGSame.f k e5 e6 f2 f5 b4 b5 b6 b7).bind fun f8 => (some f8)) = some r := by rw [if_pos rfl] at H; exact H
       clear H
       have H := H1
       clear H1
       replace H := Option.bind_eq_some_iff.mp H
       obtain ⟨f8, n8, H⟩ := H
       replace H : (some f8) = some r := H
       have A16 := aM n8
       clear n8
       exact absurd A5.out (hno _ _ _ _ _ _ _ _ _ _ _ _ A3.out A4.out)
      ·replace c15 := Bool.eq_false_iff.mpr c15
       subst c15
       have H1 : (some false) = some r := by rw [if_neg (show ¬ (false = true) by decide)] at H; exact H
       clear H
       have H := H1
       clear H1
       exact absurd (H.trans (congrArg some hr1)) (by decide)
     ·replace c14 := Bool.eq_false_iff.mpr c14
      subst c14
      have H1 : (some false) = some r := by rw [if_neg (show ¬ (false = true) by decide)] at H; exact H
      clear H
      have H := H1
      clear H1
      exact absurd (H.trans (congrArg some hr1)) (by decide)
    ·replace c11 := Bool.eq_false_iff.mpr c11
     subst c11
     have H1 : (if g7 = true then ((spec_RGSame.f k e5 e6 f2 f5 b4 b5 b6 b7).bind fun g1 => (some g1)) else (some false)) = some r := by rw [if_neg (show ¬ (false = true) by decide)] at H; exact H
     clear H
     have H := H1
     clear H1
     by_cases m0 : g7 = true
     ·subst m0
      have H1 : ((spec_RGSame.f k e5 e6 f2 f5 b4 b5 b6 b7).bind fun g1 => (some g1)) = some r := by rw [if_pos rfl] at H; exact H
      clear H
      have H := H1
      clear H1
      replace H := Option.bind_eq_some_iff.mp H
      obtain ⟨g1, n2, H⟩ := H
      replace H : (some g1) = some r := H
      have o7 := aM n2
      clear n2
      clear hr1
      clear hno
      obtain rfl := Option.some.inj H
      go_enter Tryd.func6, Tryd.ntmps6
      try go_wp2_with (first | ((with_reducible refine gate_dst (N := 2) rfl ?_); refine box_event ?hg (N := 2) ?hd (cs := #[.int .i64 a0_0, .int .i64 a0_1, .int .i64 a0_2, .int .i64 a0_3]) (t := 44) ?hr ?_; (case hd => rfl); (case hg => rfl); (case hr => first | (go_simp; done) | (go_simp; rfl)); intro a0 hg H2 hbox hb; have n0_ := aM (wP (by repeat (first | (with_reducible first | exact HB.out | apply wA | apply wN | apply wD) | exact HB.out)) hb); have n1_ := aM (hbox); have n2_ := aM ((by rw [hg]; exact (below_size (by repeat (first | (with_reducible first | exact HB.out | apply wA | apply wN | apply wD) | exact HB.out))) : w.heap.size ≤ a0)); have n3_ := aM ((by rw [hg]; exact (below_size (by repeat (first | (with_reducible first | exact HB.out | apply wA | apply wN | apply wD) | exact HB.out))) : w.heap.size ≤ a0)); clear HB; have HB := n0_; have a2 := n1_; have F8 := n2_; have b2 := n3_; clear n0_ n1_ n2_ n3_; clear hb hbox hg) | ((with_reducible refine gate_dst (N := 3) rfl ?_); refine box_event ?hg (N := 3) ?hd (cs := #[.int .i64 a1_0, .int .i64 a1_1, .int .i64 a1_2, .int .i64 a1_3]) (t := 44) ?hr ?_; (case hd => rfl); (case hg => rfl); (case hr => first | (go_simp; done) | (go_simp; rfl)); intro a1 hg o8 hbox hb; have n0_ := aM (bB (g := a0) (o := .cells #[.int .i64 a0_0, .int .i64 a0_1, .int .i64 a0_2, .int .i64 a0_3] 44 (0, 0)) (by (with_reducible repeat (first | refine bN ?_ _ | refine bD ?_ | refine bA ?_ _)); exact a2.out) hb); have n1_ := aM (wP (by repeat (first | (with_reducible first | exact HB.out | apply wA | apply wN | apply wD | refine wS ?_ b2.out) | exact HB.out)) hb); have n2_ := aM (hbox); have n3_ := aM ((by rw [hg]; exact (below_size (by repeat (first | (with_reducible first | exact HB.out | apply wA | apply wN | apply wD | refine wS ?_ b2.out) | exact HB.out))) : w.heap.size ≤ a1)); have n4_ := aM ((by rw [hg]; exact (below_size (by repeat (first | (with_reducible first | exact HB.out | apply wA | apply wN | apply wD | refine wS ?_ b2.out) | exact HB.out))) : w.heap.size ≤ a1)); have n5_ := aM ((by rw [hg]; exact Nat.ne_of_lt (bL (g := a0) (o := .cells #[.int .i64 a0_0, .int .i64 a0_1, .int .i64 a0_2, .int .i64 a0_3] 44 (0, 0)) (by (with_reducible repeat (first | refine bN ?_ _ | refine bD ?_ | refine bA ?_ _)); exact a2.out)) : a0 ≠ a1)); have n6_ := aM ((by rw [hg]; exact Nat.ne_of_gt (bL (g := a0) (o := .cells #[.int .i64 a0_0, .int .i64 a0_1, .int .i64 a0_2, .int .i64 a0_3] 44 (0, 0)) (by (with_reducible repeat (first | refine bN ?_ _ | refine bD ?_ | refine bA ?_ _)); exact a2.out)) : a1 ≠ a0)); clear a2; clear HB; have a2 := n0_; have HB := n1_; have a3 := n2_; have F9 := n3_; have b3 := n4_; have o1 := n5_; have o2 := n6_; clear n0_ n1_ n2_ n3_ n4_ n5_ n6_; clear hb hbox hg))
      have n0_ := aM (bD a2.out)
      have n1_ := aM (bD a3.out)
      have n2_ := aM (wD HB.out)
      clear a2
      clear a3
      clear HB
      have a2 := n0_
      have a3 := n1_
      have HB := n2_
      clear n0_ n1_ n2_
      refine start_ (n := 8) (S := fun w' => w'.cell? ⟨a0, 0, none⟩ = some (.int .i64 a0_0) ∧ w'.cell? ⟨a0, 1, none⟩ = some (.int .i64 a0_1) ∧ w'.cell? ⟨a0, 2, none⟩ = some (.int .i64 a0_2) ∧ w'.cell? ⟨a0, 3, none⟩ = some (.int .i64 a0_3) ∧ w'.cell? ⟨a1, 0, none⟩ = some (.int .i64 a1_0) ∧ w'.cell? ⟨a1, 1, none⟩ = some (.int .i64 a1_1) ∧ w'.cell? ⟨a1, 2, none⟩ = some (.int .i64 a1_2) ∧ w'.cell? ⟨a1, 3, none⟩ = some (.int .i64 a1_3)) (ds := []) #[false, false, false, false, false, false, false, false] (by kernel_rfl) rfl rfl ⟨(blk_cell a2.out 0).trans rfl, (blk_cell a2.out 1).trans rfl, (blk_cell a2.out 2).trans rfl, (blk_cell a2.out 3).trans rfl, (blk_cell a3.out 0).trans rfl, (blk_cell a3.out 1).trans rfl, (blk_cell a3.out 2).trans rfl, (blk_cell a3.out 3).trans rfl⟩ (fun hHeld => ?_); refine with_tabW laws_FnRGUnion.tab1 laws_FnRGUnion.bits1 (fun HT_ HW_ => ?_)
      generalize o8.drew = w154 at a2 a3 HB hHeld ⊢
      refine take_ (i := 0) (N := some 13) (v := ?_) (a' := ?_) #[true, false, false, false, false, false, false, false] rfl rfl (take_ofW HT_.out HW_.out (by kernel_rfl)) (fun _ _ _ h => h) (Or.inl ⟨by rfl, ?_⟩) hHeld ?_ ?_
      rotate_left
      ·rintro w' ⟨s0, s1, s2, s3, s4, s5, s6, s7⟩
       go_simp
       with_reducible rfl
      rotate_left
      ·simp only [Act.put, List.setIfInBounds_toArray, List.set_cons_zero, List.set_cons_succ, i64_w, i32_w]
       rfl
      refine take_ (i := 2) (N := some 15) (v := ?_) (a' := ?_) #[true, false, true, false, false, false, false, false] rfl rfl (take_ofW HT_.out HW_.out (by kernel_rfl)) (fun _ _ _ h => h) (Or.inl ⟨by rfl, ?_⟩) hHeld ?_ ?_
      rotate_left
      ·rintro w' ⟨s0, s1, s2, s3, s4, s5, s6, s7⟩
       go_simp
       with_reducible rfl
      rotate_left
      ·simp only [Act.put, List.setIfInBounds_toArray, List.set_cons_zero, List.set_cons_succ, i64_w, i32_w]
       rfl
      refine join_ (σ := Nat × Nat) 2 #[true, true, true, true, true, true, false, false] (fun s_ => [(14, .agg #[.int .i64 b4, .int .i64 b5, .int .i64 b6, .int .i64 b7]), (16, .agg #[.int .i64 d4, .int .i64 d5, .int .i64 d6, .int .i64 d7]), (5, .pointer (some ⟨s_.1, 0, none⟩)), (6, .pointer (some ⟨s_.2, 0, none⟩))]) (fun s_ w' => (w'.cell? ⟨a0, 0, none⟩ = some (.int .i64 a0_0) ∧ w'.cell? ⟨a0, 1, none⟩ = some (.int .i64 a0_1) ∧ w'.cell? ⟨a0, 2, none⟩ = some (.int .i64 a0_2) ∧ w'.cell? ⟨a0, 3, none⟩ = some (.int .i64 a0_3) ∧ w'.cell? ⟨a1, 0, none⟩ = some (.int .i64 a1_0) ∧ w'.cell? ⟨a1, 1, none⟩ = some (.int .i64 a1_1) ∧ w'.cell? ⟨a1, 2, none⟩ = some (.int .i64 a1_2) ∧ w'.cell? ⟨a1, 3, none⟩ = some (.int .i64 a1_3)) ∧ (w'.heap[a0]? = some (.cells #[.int .i64 a0_0, .int .i64 a0_1, .int .i64 a0_2, .int .i64 a0_3] 44 (0, 0))) ∧ (w'.heap[a1]? = some (.cells #[.int .i64 a1_0, .int .i64 a1_1, .int .i64 a1_2, .int .i64 a1_3] 44 (0, 0))) ∧ (w'.heap[s_.1]? = some (.cells #[.int .i64 0, .int .i64 0, .int .i64 0, .int .i64 0] 44 (0, 0))) ∧ (w'.heap[s_.2]? = some (.cells #[.int .i64 0, .int .i64 0, .int .i64 0, .int .i64 0] 44 (0, 0))) ∧ (w.heap.size ≤ s_.1) ∧ (w.heap.size ≤ s_.1) ∧ (a0 ≠ s_.1) ∧ (s_.1 ≠ a0) ∧ (a1 ≠ s_.1) ∧ (s_.1 ≠ a1) ∧ (s_.2 ≠ s_.1) ∧ (s_.1 ≠ s_.2) ∧ (w.heap.size ≤ s_.2) ∧ (w.heap.size ≤ s_.2) ∧ (a0 ≠ s_.2) ∧ (s_.2 ≠ a0) ∧ (a1 ≠ s_.2) ∧ (s_.2 ≠ a1) ∧ (Below w.heap.size w w')) ?_ ?_
      rotate_left
      ·intro j5
       refine join_ (σ := Nat) 3 #[true, true, true, true, true, false, false, false] (fun s_ => [(14, .agg #[.int .i64 b4, .int .i64 b5, .int .i64 b6, .int .i64 b7]), (16, .agg #[.int .i64 d4, .int .i64 d5, .int .i64 d6, .int .i64 d7]), (5, .pointer (some ⟨s_, 0, none⟩))]) (fun s_ w' => (w'.cell? ⟨a0, 0, none⟩ = some (.int .i64 a0_0) ∧ w'.cell? ⟨a0, 1, none⟩ = some (.int .i64 a0_1) ∧ w'.cell? ⟨a0, 2, none⟩ = some (.int .i64 a0_2) ∧ w'.cell? ⟨a0, 3, none⟩ = some (.int .i64 a0_3) ∧ w'.cell? ⟨a1, 0, none⟩ = some (.int .i64 a1_0) ∧ w'.cell? ⟨a1, 1, none⟩ = some (.int .i64 a1_1) ∧ w'.cell? ⟨a1, 2, none⟩ = some (.int .i64 a1_2) ∧ w'.cell? ⟨a1, 3, none⟩ = some (.int .i64 a1_3)) ∧ (w'.heap[a0]? = some (.cells #[.int .i64 a0_0, .int .i64 a0_1, .int .i64 a0_2, .int .i64 a0_3] 44 (0, 0))) ∧ (w'.heap[a1]? = some (.cells #[.int .i64 a1_0, .int .i64 a1_1, .int .i64 a1_2, .int .i64 a1_3] 44 (0, 0))) ∧ (w'.heap[s_]? = some (.cells #[.int .i64 0, .int .i64 0, .int .i64 0, .int .i64 0] 44 (0, 0))) ∧ (w.heap.size ≤ s_) ∧ (w.heap.size ≤ s_) ∧ (a0 ≠ s_) ∧ (s_ ≠ a0) ∧ (a1 ≠ s_) ∧ (s_ ≠ a1) ∧ (Below w.heap.size w w')) ?_ ?_
       rotate_left
       ·intro l8
        refine join_ (σ := Nat) 3 #[true, true, true, true, false, true, false, false] (fun s_ => [(14, .agg #[.int .i64 b4, .int .i64 b5, .int .i64 b6, .int .i64 b7]), (16, .agg #[.int .i64 d4, .int .i64 d5, .int .i64 d6, .int .i64 d7]), (6, .pointer (some ⟨s_, 0, none⟩))]) (fun s_ w' => (w'.cell? ⟨a0, 0, none⟩ = some (.int .i64 a0_0) ∧ w'.cell? ⟨a0, 1, none⟩ = some (.int .i64 a0_1) ∧ w'.cell? ⟨a0, 2, none⟩ = some (.int .i64 a0_2) ∧ w'.cell? ⟨a0, 3, none⟩ = some (.int .i64 a0_3) ∧ w'.cell? ⟨a1, 0, none⟩ = some (.int .i64 a1_0) ∧ w'.cell? ⟨a1, 1, none⟩ = some (.int .i64 a1_1) ∧ w'.cell? ⟨a1, 2, none⟩ = some (.int .i64 a1_2) ∧ w'.cell? ⟨a1, 3, none⟩ = some (.int .i64 a1_3)) ∧ (w'.heap[a0]? = some (.cells #[.int .i64 a0_0, .int .i64 a0_1, .int .i64 a0_2, .int .i64 a0_3] 44 (0, 0))) ∧ (w'.heap[a1]? = some (.cells #[.int .i64 a1_0, .int .i64 a1_1, .int .i64 a1_2, .int .i64 a1_3] 44 (0, 0))) ∧ (w'.heap[s_]? = some (.cells #[.int .i64 0, .int .i64 0, .int .i64 0, .int .i64 0] 44 (0, 0))) ∧ (w.heap.size ≤ s_) ∧ (w.heap.size ≤ s_) ∧ (a0 ≠ s_) ∧ (s_ ≠ a0) ∧ (a1 ≠ s_) ∧ (s_ ≠ a1) ∧ (Below w.heap.size w w')) ?_ ?_
        rotate_left
        ·intro l9
         refine join_ (σ := Nat × Nat) 3 #[true, true, true, false, true, true, false, false] (fun s_ => [(14, .agg #[.int .i64 b4, .int .i64 b5, .int .i64 b6, .int .i64 b7]), (5, .pointer (some ⟨s_.1, 0, none⟩)), (6, .pointer (some ⟨s_.2, 0, none⟩))]) (fun s_ w' => (w'.cell? ⟨a0, 0, none⟩ = some (.int .i64 a0_0) ∧ w'.cell? ⟨a0, 1, none⟩ = some (.int .i64 a0_1) ∧ w'.cell? ⟨a0, 2, none⟩ = some (.int .i64 a0_2) ∧ w'.cell? ⟨a0, 3, none⟩ = some (.int .i64 a0_3) ∧ w'.cell? ⟨a1, 0, none⟩ = some (.int .i64 a1_0) ∧ w'.cell? ⟨a1, 1, none⟩ = some (.int .i64 a1_1) ∧ w'.cell? ⟨a1, 2, none⟩ = some (.int .i64 a1_2) ∧ w'.cell? ⟨a1, 3, none⟩ = some (.int .i64 a1_3)) ∧ (w'.heap[a0]? = some (.cells #[.int .i64 a0_0, .int .i64 a0_1, .int .i64 a0_2, .int .i64 a0_3] 44 (0, 0))) ∧ (w'.heap[a1]? = some (.cells #[.int .i64 a1_0, .int .i64 a1_1, .int .i64 a1_2, .int .i64 a1_3] 44 (0, 0))) ∧ (w'.heap[s_.1]? = some (.cells #[.int .i64 0, .int .i64 0, .int .i64 0, .int .i64 0] 44 (0, 0))) ∧ (w'.heap[s_.2]? = some (.cells #[.int .i64 0, .int .i64 0, .int .i64 0, .int .i64 0] 44 (0, 0))) ∧ (w.heap.size ≤ s_.1) ∧ (w.heap.size ≤ s_.1) ∧ (a0 ≠ s_.1) ∧ (s_.1 ≠ a0) ∧ (a1 ≠ s_.1) ∧ (s_.1 ≠ a1) ∧ (s_.2 ≠ s_.1) ∧ (s_.1 ≠ s_.2) ∧ (w.heap.size ≤ s_.2) ∧ (w.heap.size ≤ s_.2) ∧ (a0 ≠ s_.2) ∧ (s_.2 ≠ a0) ∧ (a1 ≠ s_.2) ∧ (s_.2 ≠ a1) ∧ (Below w.heap.size w w')) ?_ ?_
         rotate_left
         ·intro l6
          refine join_ (σ := Unit) 4 #[true, true, true, true, false, false, false, false] (fun s_ => [(14, .agg #[.int .i64 b4, .int .i64 b5, .int .i64 b6, .int .i64 b7]), (16, .agg #[.int .i64 d4, .int .i64 d5, .int .i64 d6, .int .i64 d7])]) (fun s_ w' => (w'.cell? ⟨a0, 0, none⟩ = some (.int .i64 a0_0) ∧ w'.cell? ⟨a0, 1, none⟩ = some (.int .i64 a0_1) ∧ w'.cell? ⟨a0, 2, none⟩ = some (.int .i64 a0_2) ∧ w'.cell? ⟨a0, 3, none⟩ = some (.int .i64 a0_3) ∧ w'.cell? ⟨a1, 0, none⟩ = some (.int .i64 a1_0) ∧ w'.cell? ⟨a1, 1, none⟩ = some (.int .i64 a1_1) ∧ w'.cell? ⟨a1, 2, none⟩ = some (.int .i64 a1_2) ∧ w'.cell? ⟨a1, 3, none⟩ = some (.int .i64 a1_3)) ∧ (w'.heap[a0]? = some (.cells #[.int .i64 a0_0, .int .i64 a0_1, .int .i64 a0_2, .int .i64 a0_3] 44 (0, 0))) ∧ (w'.heap[a1]? = some (.cells #[.int .i64 a1_0, .int .i64 a1_1, .int .i64 a1_2, .int .i64 a1_3] 44 (0, 0))) ∧ (Below w.heap.size w w')) ?_ ?_
          rotate_left
          ·intro o0
           refine join_ (σ := Nat) 4 #[true, true, true, false, true, false, false, false] (fun s_ => [(14, .agg #[.int .i64 b4, .int .i64 b5, .int .i64 b6, .int .i64 b7]), (5, .pointer (some ⟨s_, 0, none⟩))]) (fun s_ w' => (w'.cell? ⟨a0, 0, none⟩ = some (.int .i64 a0_0) ∧ w'.cell? ⟨a0, 1, none⟩ = some (.int .i64 a0_1) ∧ w'.cell? ⟨a0, 2, none⟩ = some (.int .i64 a0_2) ∧ w'.cell? ⟨a0, 3, none⟩ = some (.int .i64 a0_3) ∧ w'.cell? ⟨a1, 0, none⟩ = some (.int .i64 a1_0) ∧ w'.cell? ⟨a1, 1, none⟩ = some (.int .i64 a1_1) ∧ w'.cell? ⟨a1, 2, none⟩ = some (.int .i64 a1_2) ∧ w'.cell? ⟨a1, 3, none⟩ = some (.int .i64 a1_3)) ∧ (w'.heap[a0]? = some (.cells #[.int .i64 a0_0, .int .i64 a0_1, .int .i64 a0_2, .int .i64 a0_3] 44 (0, 0))) ∧ (w'.heap[a1]? = some (.cells #[.int .i64 a1_0, .int .i64 a1_1, .int .i64 a1_2, .int .i64 a1_3] 44 (0, 0))) ∧ (w'.heap[s_]? = some (.cells #[.int .i64 0, .int .i64 0, .int .i64 0, .int .i64 0] 44 (0, 0))) ∧ (w.heap.size ≤ s_) ∧ (w.heap.size ≤ s_) ∧ (a0 ≠ s_) ∧ (s_ ≠ a0) ∧ (a1 ≠ s_) ∧ (s_ ≠ a1) ∧ (Below w.heap.size w w')) ?_ ?_
           rotate_left
           ·intro n3
            refine join_ (σ := Nat) 4 #[true, true, true, false, false, true, false, false] (fun s_ => [(14, .agg #[.int .i64 b4, .int .i64 b5, .int .i64 b6, .int .i64 b7]), (6, .pointer (some ⟨s_, 0, none⟩))]) (fun s_ w' => (w'.cell? ⟨a0, 0, none⟩ = some (.int .i64 a0_0) ∧ w'.cell? ⟨a0, 1, none⟩ = some (.int .i64 a0_1) ∧ w'.cell? ⟨a0, 2, none⟩ = some (.int .i64 a0_2) ∧ w'.cell? ⟨a0, 3, none⟩ = some (.int .i64 a0_3) ∧ w'.cell? ⟨a1, 0, none⟩ = some (.int .i64 a1_0) ∧ w'.cell? ⟨a1, 1, none⟩ = some (.int .i64 a1_1) ∧ w'.cell? ⟨a1, 2, none⟩ = some (.int .i64 a1_2) ∧ w'.cell? ⟨a1, 3, none⟩ = some (.int .i64 a1_3)) ∧ (w'.heap[a0]? = some (.cells #[.int .i64 a0_0, .int .i64 a0_1, .int .i64 a0_2, .int .i64 a0_3] 44 (0, 0))) ∧ (w'.heap[a1]? = some (.cells #[.int .i64 a1_0, .int .i64 a1_1, .int .i64 a1_2, .int .i64 a1_3] 44 (0, 0))) ∧ (w'.heap[s_]? = some (.cells #[.int .i64 0, .int .i64 0, .int .i64 0, .int .i64 0] 44 (0, 0))) ∧ (w.heap.size ≤ s_) ∧ (w.heap.size ≤ s_) ∧ (a0 ≠ s_) ∧ (s_ ≠ a0) ∧ (a1 ≠ s_) ∧ (s_ ≠ a1) ∧ (Below w.heap.size w w')) ?_ ?_
            rotate_left
            ·intro n4
             refine join_ (σ := Nat × Nat) 4 #[true, false, true, false, true, true, false, false] (fun s_ => [(5, .pointer (some ⟨s_.1, 0, none⟩)), (6, .pointer (some ⟨s_.2, 0, none⟩))]) (fun s_ w' => (w'.cell? ⟨a0, 0, none⟩ = some (.int .i64 a0_0) ∧ w'.cell? ⟨a0, 1, none⟩ = some (.int .i64 a0_1) ∧ w'.cell? ⟨a0, 2, none⟩ = some (.int .i64 a0_2) ∧ w'.cell? ⟨a0, 3, none⟩ = some (.int .i64 a0_3) ∧ w'.cell? ⟨a1, 0, none⟩ = some (.int .i64 a1_0) ∧ w'.cell? ⟨a1, 1, none⟩ = some (.int .i64 a1_1) ∧ w'.cell? ⟨a1, 2, none⟩ = some (.int .i64 a1_2) ∧ w'.cell? ⟨a1, 3, none⟩ = some (.int .i64 a1_3)) ∧ (w'.heap[a0]? = some (.cells #[.int .i64 a0_0, .int .i64 a0_1, .int .i64 a0_2, .int .i64 a0_3] 44 (0, 0))) ∧ (w'.heap[a1]? = some (.cells #[.int .i64 a1_0, .int .i64 a1_1, .int .i64 a1_2, .int .i64 a1_3] 44 (0, 0))) ∧ (w'.heap[s_.1]? = some (.cells #[.int .i64 0, .int .i64 0, .int .i64 0, .int .i64 0] 44 (0, 0))) ∧ (w'.heap[s_.2]? = some (.cells #[.int .i64 0, .int .i64 0, .int .i64 0, .int .i64 0] 44 (0, 0))) ∧ (w.heap.size ≤ s_.1) ∧ (w.heap.size ≤ s_.1) ∧ (a0 ≠ s_.1) ∧ (s_.1 ≠ a0) ∧ (a1 ≠ s_.1) ∧ (s_.1 ≠ a1) ∧ (s_.2 ≠ s_.1) ∧ (s_.1 ≠ s_.2) ∧ (w.heap.size ≤ s_.2) ∧ (w.heap.size ≤ s_.2) ∧ (a0 ≠ s_.2) ∧ (s_.2 ≠ a0) ∧ (a1 ≠ s_.2) ∧ (s_.2 ≠ a1) ∧ (Below w.heap.size w w')) ?_ ?_
             rotate_left
             ·intro n5
              refine join_ (σ := Unit) 5 #[true, true, true, false, false, false, false, false] (fun s_ => [(14, .agg #[.int .i64 b4, .int .i64 b5, .int .i64 b6, .int .i64 b7])]) (fun s_ w' => (w'.cell? ⟨a0, 0, none⟩ = some (.int .i64 a0_0) ∧ w'.cell? ⟨a0, 1, none⟩ = some (.int .i64 a0_1) ∧ w'.cell? ⟨a0, 2, none⟩ = some (.int .i64 a0_2) ∧ w'.cell? ⟨a0, 3, none⟩ = some (.int .i64 a0_3) ∧ w'.cell? ⟨a1, 0, none⟩ = some (.int .i64 a1_0) ∧ w'.cell? ⟨a1, 1, none⟩ = some (.int .i64 a1_1) ∧ w'.cell? ⟨a1, 2, none⟩ = some (.int .i64 a1_2) ∧ w'.cell? ⟨a1, 3, none⟩ = some (.int .i64 a1_3)) ∧ (w'.heap[a0]? = some (.cells #[.int .i64 a0_0, .int .i64 a0_1, .int .i64 a0_2, .int .i64 a0_3] 44 (0, 0))) ∧ (w'.heap[a1]? = some (.cells #[.int .i64 a1_0, .int .i64 a1_1, .int .i64 a1_2, .int .i64 a1_3] 44 (0, 0))) ∧ (Below w.heap.size w w')) ?_ ?_
              rotate_left
              ·intro hJ1
               refine join_ (σ := Nat) 5 #[true, false, true, false, true, false, false, false] (fun s_ => [(5, .pointer (some ⟨s_, 0, none⟩))]) (fun s_ w' => (w'.cell? ⟨a0, 0, none⟩ = some (.int .i64 a0_0) ∧ w'.cell? ⟨a0, 1, none⟩ = some (.int .i64 a0_1) ∧ w'.cell? ⟨a0, 2, none⟩ = some (.int .i64 a0_2) ∧ w'.cell? ⟨a0, 3, none⟩ = some (.int .i64 a0_3) ∧ w'.cell? ⟨a1, 0, none⟩ = some (.int .i64 a1_0) ∧ w'.cell? ⟨a1, 1, none⟩ = some (.int .i64 a1_1) ∧ w'.cell? ⟨a1, 2, none⟩ = some (.int .i64 a1_2) ∧ w'.cell? ⟨a1, 3, none⟩ = some (.int .i64 a1_3)) ∧ (w'.heap[a0]? = some (.cells #[.int .i64 a0_0, .int .i64 a0_1, .int .i64 a0_2, .int .i64 a0_3] 44 (0, 0))) ∧ (w'.heap[a1]? = some (.cells #[.int .i64 a1_0, .int .i64 a1_1, .int .i64 a1_2, .int .i64 a1_3] 44 (0, 0))) ∧ (w'.heap[s_]? = some (.cells #[.int .i64 0, .int .i64 0, .int .i64 0, .int .i64 0] 44 (0, 0))) ∧ (w.heap.size ≤ s_) ∧ (w.heap.size ≤ s_) ∧ (a0 ≠ s_) ∧ (s_ ≠ a0) ∧ (a1 ≠ s_) ∧ (s_ ≠ a1) ∧ (Below w.heap.size w w')) ?_ ?_
               rotate_left
               ·intro hJ4
                refine join_ (σ := Nat) 5 #[true, false, true, false, false, true, false, false] (fun s_ => [(6, .pointer (some ⟨s_, 0, none⟩))]) (fun s_ w' => (w'.cell? ⟨a0, 0, none⟩ = some (.int .i64 a0_0) ∧ w'.cell? ⟨a0, 1, none⟩ = some (.int .i64 a0_1) ∧ w'.cell? ⟨a0, 2, none⟩ = some (.int .i64 a0_2) ∧ w'.cell? ⟨a0, 3, none⟩ = some (.int .i64 a0_3) ∧ w'.cell? ⟨a1, 0, none⟩ = some (.int .i64 a1_0) ∧ w'.cell? ⟨a1, 1, none⟩ = some (.int .i64 a1_1) ∧ w'.cell? ⟨a1, 2, none⟩ = some (.int .i64 a1_2) ∧ w'.cell? ⟨a1, 3, none⟩ = some (.int .i64 a1_3)) ∧ (w'.heap[a0]? = some (.cells #[.int .i64 a0_0, .int .i64 a0_1, .int .i64 a0_2, .int .i64 a0_3] 44 (0, 0))) ∧ (w'.heap[a1]? = some (.cells #[.int .i64 a1_0, .int .i64 a1_1, .int .i64 a1_2, .int .i64 a1_3] 44 (0, 0))) ∧ (w'.heap[s_]? = some (.cells #[.int .i64 0, .int .i64 0, .int .i64 0, .int .i64 0] 44 (0, 0))) ∧ (w.heap.size ≤ s_) ∧ (w.heap.size ≤ s_) ∧ (a0 ≠ s_) ∧ (s_ ≠ a0) ∧ (a1 ≠ s_) ∧ (s_ ≠ a1) ∧ (Below w.heap.size w w')) ?_ ?_
                rotate_left
                ·intro hJ5
                 refine three_ (i := 1) (j := 4) (k := 5) (Ni := some 14) (Nj := some 5) (Nk := some 6) #[true, true, true, false, false, false, false, false] #[true, false, true, false, true, false, false, false] #[true, false, true, false, false, true, false, false] rfl rfl rfl rfl rfl rfl (three_of HT_.out (by kernel_rfl)) (by decide) (by decide) (by decide) (fun K hK => ?_) (fun K hK => ?_) (fun K hK => ?_)
                 ·skip
                  refine goes_ Tryd.func21 (by kernel_rfl) rfl #[.agg #[.int .i64 a0_0, .int .i64 a0_1, .int .i64 a0_2, .int .i64 a0_3]] (by rfl) rfl rfl (by (try simp only [List.map_toArray, List.map_cons, List.map_nil]); first | done | rfl | (simp only [List.length_drop, List.length_take]; rfl)) ?_
                  with_reducible refine (laws_rgFull.calls k a0_0 a0_1 a0_2 a0_3 b4 b5 b6 b7 _ A3.out).mono ?_
                  rintro e n9 ⟨rfl, hb⟩
                  refine ⟨_, rfl, ?_⟩
                  have n0_ := aM (bB (g := a0) (o := .cells #[.int .i64 a0_0, .int .i64 a0_1, .int .i64 a0_2, .int .i64 a0_3] 44 (0, 0)) (by (with_reducible repeat (first | refine bN ?_ _ | refine bD ?_ | refine bA ?_ _)); exact a2.out) hb)
                  have n1_ := aM (bB (g := a1) (o := .cells #[.int .i64 a1_0, .int .i64 a1_1, .int .i64 a1_2, .int .i64 a1_3] 44 (0, 0)) (by (with_reducible repeat (first | refine bN ?_ _ | refine bD ?_ | refine bA ?_ _)); exact a3.out) hb)
                  have n2_ := aM (wP (by repeat (first | (with_reducible first | exact HB.out | apply wA | apply wN | apply wD | refine wS ?_ b2.out | refine wS ?_ b3.out) | exact HB.out)) hb)
                  clear a2
                  clear a3
                  clear HB
                  have a2 := n0_
                  have a3 := n1_
                  have HB := n2_
                  clear n0_ n1_ n2_
                  (try clear hb)
                  (try clear hb2)
                  (try clear hk)
                  (try clear hi)
                  refine hK.out _ _ ⟨(blk_cell a2.out 0).trans rfl, (blk_cell a2.out 1).trans rfl, (blk_cell a2.out 2).trans rfl, (blk_cell a2.out 3).trans rfl, (blk_cell a3.out 0).trans rfl, (blk_cell a3.out 1).trans rfl, (blk_cell a3.out 2).trans rfl, (blk_cell a3.out 3).trans rfl⟩ (fun hHeld => ?_)
                  clear hK K
                  refine norm_ (a' := ?_) ?_ ?_
                  rotate_left
                  ·show Act.put _ (some 14) _ = _
                   simp only [Act.put, List.setIfInBounds_toArray, List.set_cons_zero, List.set_cons_succ, i64_w, i32_w]
                   rfl
                  exact norm_ (by first | (simp only [putAll, Act.put, List.setIfInBounds_toArray, List.set_cons_zero, List.set_cons_succ]; done) | (simp only [putAll, Act.put, List.setIfInBounds_toArray, List.set_cons_zero, List.set_cons_succ]; rfl)) (hJ1 () _ ⟨hHeld, (by (with_reducible repeat (first | refine bN ?_ _ | refine bD ?_ | refine bA ?_ _)); exact a2.out), (by (with_reducible repeat (first | refine bN ?_ _ | refine bD ?_ | refine bA ?_ _)); exact a3.out), (by repeat (first | (with_reducible first | exact HB.out | apply wA | apply wN | apply wD | refine wS ?_ b2.out | refine wS ?_ b3.out) | exact HB.out))⟩)
                 ·skip
                  refine box_step ?hg (N := 5) ?hd (cs := #[.int .i64 0, .int .i64 0, .int .i64 0, .int .i64 0]) (t := 44) ?hr ?_; (case hd => rfl); (case hg => rfl); (case hr => first | (go_simp; done) | (go_simp; rfl))
                  intro a4 hg n9 hbox hb
                  have n0_ := aM (bB (g := a0) (o := .cells #[.int .i64 a0_0, .int .i64 a0_1, .int .i64 a0_2, .int .i64 a0_3] 44 (0, 0)) (by (with_reducible repeat (first | refine bN ?_ _ | refine bD ?_ | refine bA ?_ _)); exact a2.out) hb)
                  have n1_ := aM (bB (g := a1) (o := .cells #[.int .i64 a1_0, .int .i64 a1_1, .int .i64 a1_2, .int .i64 a1_3] 44 (0, 0)) (by (with_reducible repeat (first | refine bN ?_ _ | refine bD ?_ | refine bA ?_ _)); exact a3.out) hb)
                  have n2_ := aM (wP (by repeat (first | (with_reducible first | exact HB.out | apply wA | apply wN | apply wD | refine wS ?_ b2.out | refine wS ?_ b3.out) | exact HB.out)) hb)
                  have n3_ := aM (hbox)
                  have n4_ := aM ((by rw [hg]; exact (below_size (by repeat (first | (with_reducible first | exact HB.out | apply wA | apply wN | apply wD | refine wS ?_ b2.out | refine wS ?_ b3.out) | exact HB.out))) : w.heap.size ≤ a4))
                  have n5_ := aM ((by rw [hg]; exact (below_size (by repeat (first | (with_reducible first | exact HB.out | apply wA | apply wN | apply wD | refine wS ?_ b2.out | refine wS ?_ b3.out) | exact HB.out))) : w.heap.size ≤ a4))
                  have n6_ := aM ((by rw [hg]; exact Nat.ne_of_lt (bL (g := a0) (o := .cells #[.int .i64 a0_0, .int .i64 a0_1, .int .i64 a0_2, .int .i64 a0_3] 44 (0, 0)) (by (with_reducible repeat (first | refine bN ?_ _ | refine bD ?_ | refine bA ?_ _)); exact a2.out)) : a0 ≠ a4))
                  have n7_ := aM ((by rw [hg]; exact Nat.ne_of_gt (bL (g := a0) (o := .cells #[.int .i64 a0_0, .int .i64 a0_1, .int .i64 a0_2, .int .i64 a0_3] 44 (0, 0)) (by (with_reducible repeat (first | refine bN ?_ _ | refine bD ?_ | refine bA ?_ _)); exact a2.out)) : a4 ≠ a0))
                  have n8_ := aM ((by rw [hg]; exact Nat.ne_of_lt (bL (g := a1) (o := .cells #[.int .i64 a1_0, .int .i64 a1_1, .int .i64 a1_2, .int .i64 a1_3] 44 (0, 0)) (by (with_reducible repeat (first | refine bN ?_ _ | refine bD ?_ | refine bA ?_ _)); exact a3.out)) : a1 ≠ a4))
                  have n9_ := aM ((by rw [hg]; exact Nat.ne_of_gt (bL (g := a1) (o := .cells #[.int .i64 a1_0, .int .i64 a1_1, .int .i64 a1_2, .int .i64 a1_3] 44 (0, 0)) (by (with_reducible repeat (first | refine bN ?_ _ | refine bD ?_ | refine bA ?_ _)); exact a3.out)) : a4 ≠ a1))
                  clear a2
                  clear a3
                  clear HB
                  have a2 := n0_
                  have a3 := n1_
                  have HB := n2_
                  have a6 := n3_
                  have f3 := n4_
                  have b8 := n5_
                  have a8 := n6_
                  have c1 := n7_
                  have a9 := n8_
                  have c2 := n9_
                  clear n0_ n1_ n2_ n3_ n4_ n5_ n6_ n7_ n8_ n9_
                  clear hb hbox hg
                  refine hK.out _ _ ⟨(blk_cell a2.out 0).trans rfl, (blk_cell a2.out 1).trans rfl, (blk_cell a2.out 2).trans rfl, (blk_cell a2.out 3).trans rfl, (blk_cell a3.out 0).trans rfl, (blk_cell a3.out 1).trans rfl, (blk_cell a3.out 2).trans rfl, (blk_cell a3.out 3).trans rfl⟩ (fun hHeld => ?_)
                  clear hK K
                  refine norm_ (a' := ?_) ?_ ?_
                  rotate_left
                  ·show Act.put _ (some 5) _ = _
                   simp only [Act.put, List.setIfInBounds_toArray, List.set_cons_zero, List.set_cons_succ, i64_w, i32_w]
                   rfl
                  exact norm_ (by first | (simp only [putAll, Act.put, List.setIfInBounds_toArray, List.set_cons_zero, List.set_cons_succ]; done) | (simp only [putAll, Act.put, List.setIfInBounds_toArray, List.set_cons_zero, List.set_cons_succ]; rfl)) (hJ4 (a4) _ ⟨hHeld, (by (with_reducible repeat (first | refine bN ?_ _ | refine bD ?_ | refine bA ?_ _)); exact a2.out), (by (with_reducible repeat (first | refine bN ?_ _ | refine bD ?_ | refine bA ?_ _)); exact a3.out), (by (with_reducible repeat (first | refine bN ?_ _ | refine bD ?_ | refine bA ?_ _)); exact a6.out), f3.out, b8.out, a8.out, c1.out, a9.out, c2.out, (by repeat (first | (with_reducible first | exact HB.out | apply wA | apply wN | apply wD | refine wS ?_ b2.out | refine wS ?_ b3.out | refine wS ?_ b8.out) | exact HB.out))⟩)
                 ·skip
                  refine box_step ?hg (N := 6) ?hd (cs := #[.int .i64 0, .int .i64 0, .int .i64 0, .int .i64 0]) (t := 44) ?hr ?_; (case hd => rfl); (case hg => rfl); (case hr => first | (go_simp; done) | (go_simp; rfl))
                  intro a5 hg n9 hbox hb
                  have n0_ := aM (bB (g := a0) (o := .cells #[.int .i64 a0_0, .int .i64 a0_1, .int .i64 a0_2, .int .i64 a0_3] 44 (0, 0)) (by (with_reducible repeat (first | refine bN ?_ _ | refine bD ?_ | refine bA ?_ _)); exact a2.out) hb)
                  have n1_ := aM (bB (g := a1) (o := .cells #[.int .i64 a1_0, .int .i64 a1_1, .int .i64 a1_2, .int .i64 a1_3] 44 (0, 0)) (by (with_reducible repeat (first | refine bN ?_ _ | refine bD ?_ | refine bA ?_ _)); exact a3.out) hb)
                  have n2_ := aM (wP (by repeat (first | (with_reducible first | exact HB.out | apply wA | apply wN | apply wD | refine wS ?_ b2.out | refine wS ?_ b3.out) | exact HB.out)) hb)
                  have n3_ := aM (hbox)
                  have n4_ := aM ((by rw [hg]; exact (below_size (by repeat (first | (with_reducible first | exact HB.out | apply wA | apply wN | apply wD | refine wS ?_ b2.out | refine wS ?_ b3.out) | exact HB.out))) : w.heap.size ≤ a5))
                  have n5_ := aM ((by rw [hg]; exact (below_size (by repeat (first | (with_reducible first | exact HB.out | apply wA | apply wN | apply wD | refine wS ?_ b2.out | refine wS ?_ b3.out) | exact HB.out))) : w.heap.size ≤ a5))
                  have n6_ := aM ((by rw [hg]; exact Nat.ne_of_lt (bL (g := a0) (o := .cells #[.int .i64 a0_0, .int .i64 a0_1, .int .i64 a0_2, .int .i64 a0_3] 44 (0, 0)) (by (with_reducible repeat (first | refine bN ?_ _ | refine bD ?_ | refine bA ?_ _)); exact a2.out)) : a0 ≠ a5))
                  have n7_ := aM ((by rw [hg]; exact Nat.ne_of_gt (bL (g := a0) (o := .cells #[.int .i64 a0_0, .int .i64 a0_1, .int .i64 a0_2, .int .i64 a0_3] 44 (0, 0)) (by (with_reducible repeat (first | refine bN ?_ _ | refine bD ?_ | refine bA ?_ _)); exact a2.out)) : a5 ≠ a0))
                  have n8_ := aM ((by rw [hg]; exact Nat.ne_of_lt (bL (g := a1) (o := .cells #[.int .i64 a1_0, .int .i64 a1_1, .int .i64 a1_2, .int .i64 a1_3] 44 (0, 0)) (by (with_reducible repeat (first | refine bN ?_ _ | refine bD ?_ | refine bA ?_ _)); exact a3.out)) : a1 ≠ a5))
                  have n9_ := aM ((by rw [hg]; exact Nat.ne_of_gt (bL (g := a1) (o := .cells #[.int .i64 a1_0, .int .i64 a1_1, .int .i64 a1_2, .int .i64 a1_3] 44 (0, 0)) (by (with_reducible repeat (first | refine bN ?_ _ | refine bD ?_ | refine bA ?_ _)); exact a3.out)) : a5 ≠ a1))
                  clear a2
                  clear a3
                  clear HB
                  have a2 := n0_
                  have a3 := n1_
                  have HB := n2_
                  have a7 := n3_
                  have f4 := n4_
                  have b9 := n5_
                  have b0 := n6_
                  have c3 := n7_
                  have b1 := n8_
                  have c4 := n9_
                  clear n0_ n1_ n2_ n3_ n4_ n5_ n6_ n7_ n8_ n9_
                  clear hb hbox hg
                  refine hK.out _ _ ⟨(blk_cell a2.out 0).trans rfl, (blk_cell a2.out 1).trans rfl, (blk_cell a2.out 2).trans rfl, (blk_cell a2.out 3).trans rfl, (blk_cell a3.out 0).trans rfl, (blk_cell a3.out 1).trans rfl, (blk_cell a3.out 2).trans rfl, (blk_cell a3.out 3).trans rfl⟩ (fun hHeld => ?_)
                  clear hK K
                  refine norm_ (a' := ?_) ?_ ?_
                  rotate_left
                  ·show Act.put _ (some 6) _ = _
                   simp only [Act.put, List.setIfInBounds_toArray, List.set_cons_zero, List.set_cons_succ, i64_w, i32_w]
                   rfl
                  exact norm_ (by first | (simp only [putAll, Act.put, List.setIfInBounds_toArray, List.set_cons_zero, List.set_cons_succ]; done) | (simp only [putAll, Act.put, List.setIfInBounds_toArray, List.set_cons_zero, List.set_cons_succ]; rfl)) (hJ5 (a5) _ ⟨hHeld, (by (with_reducible repeat (first | refine bN ?_ _ | refine bD ?_ | refine bA ?_ _)); exact a2.out), (by (with_reducible repeat (first | refine bN ?_ _ | refine bD ?_ | refine bA ?_ _)); exact a3.out), (by (with_reducible repeat (first | refine bN ?_ _ | refine bD ?_ | refine bA ?_ _)); exact a7.out), f4.out, b9.out, b0.out, c3.out, b1.out, c4.out, (by repeat (first | (with_reducible first | exact HB.out | apply wA | apply wN | apply wD | refine wS ?_ b2.out | refine wS ?_ b3.out | refine wS ?_ b9.out) | exact HB.out))⟩)
                ·skip
                 rintro a5 d8 ⟨hS_, h0_, h1_, h2_, h3_, h4_, h5_, h6_, h7_, h8_, h9_⟩
                 have n0_ : Aside0 (d8.heap[a0]? = some (.cells #[.int .i64 a0_0, .int .i64 a0_1, .int .i64 a0_2, .int .i64 a0_3] 44 (0, 0))) := ⟨h0_⟩
                 have n1_ : Aside0 (d8.heap[a1]? = some (.cells #[.int .i64 a1_0, .int .i64 a1_1, .int .i64 a1_2, .int .i64 a1_3] 44 (0, 0))) := ⟨h1_⟩
                 have n2_ : Aside0 (d8.heap[a5]? = some (.cells #[.int .i64 0, .int .i64 0, .int .i64 0, .int .i64 0] 44 (0, 0))) := ⟨h2_⟩
                 have n3_ : Aside0 (w.heap.size ≤ a5) := ⟨h3_⟩
                 have n4_ : Aside0 (w.heap.size ≤ a5) := ⟨h4_⟩
                 have n5_ : Aside0 (a0 ≠ a5) := ⟨h5_⟩
                 have n6_ : Aside0 (a5 ≠ a0) := ⟨h6_⟩
                 have n7_ : Aside0 (a1 ≠ a5) := ⟨h7_⟩
                 have n8_ : Aside0 (a5 ≠ a1) := ⟨h8_⟩
                 have n9_ : Aside0 (Below w.heap.size w d8) := ⟨h9_⟩
                 clear a2
                 clear a3
                 clear HB
                 clear h0_ h1_ h2_ h3_ h4_ h5_ h6_ h7_ h8_ h9_
                 have a2 := n0_
                 have a3 := n1_
                 have a7 := n2_
                 have f4 := n3_
                 have b9 := n4_
                 have b0 := n5_
                 have c3 := n6_
                 have b1 := n7_
                 have c4 := n8_
                 have HB := n9_
                 clear n0_ n1_ n2_ n3_ n4_ n5_ n6_ n7_ n8_ n9_
                 have hHeld : d8.cell? ⟨a0, 0, none⟩ = some (.int .i64 a0_0) ∧ d8.cell? ⟨a0, 1, none⟩ = some (.int .i64 a0_1) ∧ d8.cell? ⟨a0, 2, none⟩ = some (.int .i64 a0_2) ∧ d8.cell? ⟨a0, 3, none⟩ = some (.int .i64 a0_3) ∧ d8.cell? ⟨a1, 0, none⟩ = some (.int .i64 a1_0) ∧ d8.cell? ⟨a1, 1, none⟩ = some (.int .i64 a1_1) ∧ d8.cell? ⟨a1, 2, none⟩ = some (.int .i64 a1_2) ∧ d8.cell? ⟨a1, 3, none⟩ = some (.int .i64 a1_3) := hS_
                 refine norm_ (a' := ?_) ?_ ?_
                 rotate_left
                 ·simp only [putAll, Act.put, List.setIfInBounds_toArray, List.set_cons_zero, List.set_cons_succ]
                  rfl
                 refine two_ (i := 1) (j := 4) (Ni := some 14) (Nj := some 5) #[true, true, true, false, false, true, false, false] #[true, false, true, false, true, true, false, false] rfl rfl rfl rfl (two_of HT_.out (by kernel_rfl)) (by decide) (by decide) (fun K hK => ?_) (fun K hK => ?_)
                 ·skip
                  refine goes_ Tryd.func21 (by kernel_rfl) rfl #[.agg #[.int .i64 a0_0, .int .i64 a0_1, .int .i64 a0_2, .int .i64 a0_3]] (by rfl) rfl rfl (by (try simp only [List.map_toArray, List.map_cons, List.map_nil]); first | done | rfl | (simp only [List.length_drop, List.length_take]; rfl)) ?_
                  with_reducible refine (laws_rgFull.calls k a0_0 a0_1 a0_2 a0_3 b4 b5 b6 b7 _ A3.out).mono ?_
                  rintro e d0 ⟨rfl, hb⟩
                  refine ⟨_, rfl, ?_⟩
                  have n0_ := aM (bB (g := a0) (o := .cells #[.int .i64 a0_0, .int .i64 a0_1, .int .i64 a0_2, .int .i64 a0_3] 44 (0, 0)) (by (with_reducible repeat (first | refine bN ?_ _ | refine bD ?_ | refine bA ?_ _)); exact a2.out) hb)
                  have n1_ := aM (bB (g := a1) (o := .cells #[.int .i64 a1_0, .int .i64 a1_1, .int .i64 a1_2, .int .i64 a1_3] 44 (0, 0)) (by (with_reducible repeat (first | refine bN ?_ _ | refine bD ?_ | refine bA ?_ _)); exact a3.out) hb)
                  have n2_ := aM (bB (g := a5) (o := .cells #[.int .i64 0, .int .i64 0, .int .i64 0, .int .i64 0] 44 (0, 0)) (by (with_reducible repeat (first | refine bN ?_ _ | refine bD ?_ | refine bA ?_ _)); exact a7.out) hb)
                  have n3_ := aM (wP (by repeat (first | (with_reducible first | exact HB.out | apply wA | apply wN | apply wD | refine wS ?_ b2.out | refine wS ?_ b3.out | refine wS ?_ b9.out) | exact HB.out)) hb)
                  clear a2
                  clear a3
                  clear a7
                  clear HB
                  have a2 := n0_
                  have a3 := n1_
                  have a7 := n2_
                  have HB := n3_
                  clear n0_ n1_ n2_ n3_
                  (try clear hb)
                  (try clear hb2)
                  (try clear hk)
                  (try clear hi)
                  refine hK.out _ _ ⟨(blk_cell a2.out 0).trans rfl, (blk_cell a2.out 1).trans rfl, (blk_cell a2.out 2).trans rfl, (blk_cell a2.out 3).trans rfl, (blk_cell a3.out 0).trans rfl, (blk_cell a3.out 1).trans rfl, (blk_cell a3.out 2).trans rfl, (blk_cell a3.out 3).trans rfl⟩ (fun hHeld => ?_)
                  clear hK K
                  refine norm_ (a' := ?_) ?_ ?_
                  rotate_left
                  ·show Act.put _ (some 14) _ = _
                   simp only [Act.put, List.setIfInBounds_toArray, List.set_cons_zero, List.set_cons_succ, i64_w, i32_w]
                   rfl
                  exact norm_ (by first | (simp only [putAll, Act.put, List.setIfInBounds_toArray, List.set_cons_zero, List.set_cons_succ]; done) | (simp only [putAll, Act.put, List.setIfInBounds_toArray, List.set_cons_zero, List.set_cons_succ]; rfl)) (n4 (a5) _ ⟨hHeld, (by (with_reducible repeat (first | refine bN ?_ _ | refine bD ?_ | refine bA ?_ _)); exact a2.out), (by (with_reducible repeat (first | refine bN ?_ _ | refine bD ?_ | refine bA ?_ _)); exact a3.out), (by (with_reducible repeat (first | refine bN ?_ _ | refine bD ?_ | refine bA ?_ _)); exact a7.out), f4.out, b9.out, b0.out, c3.out, b1.out, c4.out, (by repeat (first | (with_reducible first | exact HB.out | apply wA | apply wN | apply wD | refine wS ?_ b2.out | refine wS ?_ b3.out | refine wS ?_ b9.out) | exact HB.out))⟩)
                 ·skip
                  refine box_step ?hg (N := 5) ?hd (cs := #[.int .i64 0, .int .i64 0, .int .i64 0, .int .i64 0]) (t := 44) ?hr ?_; (case hd => rfl); (case hg => rfl); (case hr => first | (go_simp; done) | (go_simp; rfl))
                  intro a4 hg d0 hbox hb
                  have n0_ := aM (bB (g := a0) (o := .cells #[.int .i64 a0_0, .int .i64 a0_1, .int .i64 a0_2, .int .i64 a0_3] 44 (0, 0)) (by (with_reducible repeat (first | refine bN ?_ _ | refine bD ?_ | refine bA ?_ _)); exact a2.out) hb)
                  have n1_ := aM (bB (g := a1) (o := .cells #[.int .i64 a1_0, .int .i64 a1_1, .int .i64 a1_2, .int .i64 a1_3] 44 (0, 0)) (by (with_reducible repeat (first | refine bN ?_ _ | refine bD ?_ | refine bA ?_ _)); exact a3.out) hb)
                  have n2_ := aM (bB (g := a5) (o := .cells #[.int .i64 0, .int .i64 0, .int .i64 0, .int .i64 0] 44 (0, 0)) (by (with_reducible repeat (first | refine bN ?_ _ | refine bD ?_ | refine bA ?_ _)); exact a7.out) hb)
                  have n3_ := aM (wP (by repeat (first | (with_reducible first | exact HB.out | apply wA | apply wN | apply wD | refine wS ?_ b2.out | refine wS ?_ b3.out | refine wS ?_ b9.out) | exact HB.out)) hb)
                  have n4_ := aM (hbox)
                  have n5_ := aM ((by rw [hg]; exact (below_size (by repeat (first | (with_reducible first | exact HB.out | apply wA | apply wN | apply wD | refine wS ?_ b2.out | refine wS ?_ b3.out | refine wS ?_ b9.out) | exact HB.out))) : w.heap.size ≤ a4))
                  have n6_ := aM ((by rw [hg]; exact (below_size (by repeat (first | (with_reducible first | exact HB.out | apply wA | apply wN | apply wD | refine wS ?_ b2.out | refine wS ?_ b3.out | refine wS ?_ b9.out) | exact HB.out))) : w.heap.size ≤ a4))
                  have n7_ := aM ((by rw [hg]; exact Nat.ne_of_lt (bL (g := a0) (o := .cells #[.int .i64 a0_0, .int .i64 a0_1, .int .i64 a0_2, .int .i64 a0_3] 44 (0, 0)) (by (with_reducible repeat (first | refine bN ?_ _ | refine bD ?_ | refine bA ?_ _)); exact a2.out)) : a0 ≠ a4))
                  have n8_ := aM ((by rw [hg]; exact Nat.ne_of_gt (bL (g := a0) (o := .cells #[.int .i64 a0_0, .int .i64 a0_1, .int .i64 a0_2, .int .i64 a0_3] 44 (0, 0)) (by (with_reducible repeat (first | refine bN ?_ _ | refine bD ?_ | refine bA ?_ _)); exact a2.out)) : a4 ≠ a0))
                  have n9_ := aM ((by rw [hg]; exact Nat.ne_of_lt (bL (g := a1) (o := .cells #[.int .i64 a1_0, .int .i64 a1_1, .int .i64 a1_2, .int .i64 a1_3] 44 (0, 0)) (by (with_reducible repeat (first | refine bN ?_ _ | refine bD ?_ | refine bA ?_ _)); exact a3.out)) : a1 ≠ a4))
                  have e7 := aM ((by rw [hg]; exact Nat.ne_of_gt (bL (g := a1) (o := .cells #[.int .i64 a1_0, .int .i64 a1_1, .int .i64 a1_2, .int .i64 a1_3] 44 (0, 0)) (by (with_reducible repeat (first | refine bN ?_ _ | refine bD ?_ | refine bA ?_ _)); exact a3.out)) : a4 ≠ a1))
                  have e8 := aM ((by rw [hg]; exact Nat.ne_of_lt (bL (g := a5) (o := .cells #[.int .i64 0, .int .i64 0, .int .i64 0, .int .i64 0] 44 (0, 0)) (by (with_reducible repeat (first | refine bN ?_ _ | refine bD ?_ | refine bA ?_ _)); exact a7.out)) : a5 ≠ a4))
                  have e9 := aM ((by rw [hg]; exact Nat.ne_of_gt (bL (g := a5) (o := .cells #[.int .i64 0, .int .i64 0, .int .i64 0, .int .i64 0] 44 (0, 0)) (by (with_reducible repeat (first | refine bN ?_ _ | refine bD ?_ | refine bA ?_ _)); exact a7.out)) : a4 ≠ a5))
                  clear a2
                  clear a3
                  clear a7
                  clear HB
                  have a2 := n0_
                  have a3 := n1_
                  have a7 := n2_
                  have HB := n3_
                  have a6 := n4_
                  have f3 := n5_
                  have b8 := n6_
                  have a8 := n7_
                  have c1 := n8_
                  have a9 := n9_
                  have c2 := e7
                  have c5 := e8
                  have c6 := e9
                  clear n0_ n1_ n2_ n3_ n4_ n5_ n6_ n7_ n8_ n9_ e7 e8 e9
                  clear hb hbox hg
                  refine hK.out _ _ ⟨(blk_cell a2.out 0).trans rfl, (blk_cell a2.out 1).trans rfl, (blk_cell a2.out 2).trans rfl, (blk_cell a2.out 3).trans rfl, (blk_cell a3.out 0).trans rfl, (blk_cell a3.out 1).trans rfl, (blk_cell a3.out 2).trans rfl, (blk_cell a3.out 3).trans rfl⟩ (fun hHeld => ?_)
                  clear hK K
                  refine norm_ (a' := ?_) ?_ ?_
                  rotate_left
                  ·show Act.put _ (some 5) _ = _
                   simp only [Act.put, List.setIfInBounds_toArray, List.set_cons_zero, List.set_cons_succ, i64_w, i32_w]
                   rfl
                  exact norm_ (by first | (simp only [putAll, Act.put, List.setIfInBounds_toArray, List.set_cons_zero, List.set_cons_succ]; done) | (simp only [putAll, Act.put, List.setIfInBounds_toArray, List.set_cons_zero, List.set_cons_succ]; rfl)) (n5 (a4, a5) _ ⟨hHeld, (by (with_reducible repeat (first | refine bN ?_ _ | refine bD ?_ | refine bA ?_ _)); exact a2.out), (by (with_reducible repeat (first | refine bN ?_ _ | refine bD ?_ | refine bA ?_ _)); exact a3.out), (by (with_reducible repeat (first | refine bN ?_ _ | refine bD ?_ | refine bA ?_ _)); exact a6.out), (by (with_reducible repeat (first | refine bN ?_ _ | refine bD ?_ | refine bA ?_ _)); exact a7.out), f3.out, b8.out, a8.out, c1.out, a9.out, c2.out, c5.out, c6.out, f4.out, b9.out, b0.out, c3.out, b1.out, c4.out, (by repeat (first | (with_reducible first | exact HB.out | apply wA | apply wN | apply wD | refine wS ?_ b2.out | refine wS ?_ b3.out | refine wS ?_ b9.out | refine wS ?_ b8.out) | exact HB.out))⟩)
               ·skip
                rintro a4 d8 ⟨hS_, h0_, h1_, h2_, h3_, h4_, h5_, h6_, h7_, h8_, h9_⟩
                have n0_ : Aside0 (d8.heap[a0]? = some (.cells #[.int .i64 a0_0, .int .i64 a0_1, .int .i64 a0_2, .int .i64 a0_3] 44 (0, 0))) := ⟨h0_⟩
                have n1_ : Aside0 (d8.heap[a1]? = some (.cells #[.int .i64 a1_0, .int .i64 a1_1, .int .i64 a1_2, .int .i64 a1_3] 44 (0, 0))) := ⟨h1_⟩
                have n2_ : Aside0 (d8.heap[a4]? = some (.cells #[.int .i64 0, .int .i64 0, .int .i64 0, .int .i64 0] 44 (0, 0))) := ⟨h2_⟩
                have n3_ : Aside0 (w.heap.size ≤ a4) := ⟨h3_⟩
                have n4_ : Aside0 (w.heap.size ≤ a4) := ⟨h4_⟩
                have n5_ : Aside0 (a0 ≠ a4) := ⟨h5_⟩
                have n6_ : Aside0 (a4 ≠ a0) := ⟨h6_⟩
                have n7_ : Aside0 (a1 ≠ a4) := ⟨h7_⟩
                have n8_ : Aside0 (a4 ≠ a1) := ⟨h8_⟩
                have n9_ : Aside0 (Below w.heap.size w d8) := ⟨h9_⟩
                clear a2
                clear a3
                clear HB
                clear h0_ h1_ h2_ h3_ h4_ h5_ h6_ h7_ h8_ h9_
                have a2 := n0_
                have a3 := n1_
                have a6 := n2_
                have f3 := n3_
                have b8 := n4_
                have a8 := n5_
                have c1 := n6_
                have a9 := n7_
                have c2 := n8_
                have HB := n9_
                clear n0_ n1_ n2_ n3_ n4_ n5_ n6_ n7_ n8_ n9_
                have hHeld : d8.cell? ⟨a0, 0, none⟩ = some (.int .i64 a0_0) ∧ d8.cell? ⟨a0, 1, none⟩ = some (.int .i64 a0_1) ∧ d8.cell? ⟨a0, 2, none⟩ = some (.int .i64 a0_2) ∧ d8.cell? ⟨a0, 3, none⟩ = some (.int .i64 a0_3) ∧ d8.cell? ⟨a1, 0, none⟩ = some (.int .i64 a1_0) ∧ d8.cell? ⟨a1, 1, none⟩ = some (.int .i64 a1_1) ∧ d8.cell? ⟨a1, 2, none⟩ = some (.int .i64 a1_2) ∧ d8.cell? ⟨a1, 3, none⟩ = some (.int .i64 a1_3) := hS_
                refine norm_ (a' := ?_) ?_ ?_
                rotate_left
                ·simp only [putAll, Act.put, List.setIfInBounds_toArray, List.set_cons_zero, List.set_cons_succ]
                 rfl
                refine two_ (i := 1) (j := 5) (Ni := some 14) (Nj := some 6) #[true, true, true, false, true, false, false, false] #[true, false, true, false, true, true, false, false] rfl rfl rfl rfl (two_of HT_.out (by kernel_rfl)) (by decide) (by decide) (fun K hK => ?_) (fun K hK => ?_)
                ·skip
                 refine goes_ Tryd.func21 (by kernel_rfl) rfl #[.agg #[.int .i64 a0_0, .int .i64 a0_1, .int .i64 a0_2, .int .i64 a0_3]] (by rfl) rfl rfl (by (try simp only [List.map_toArray, List.map_cons, List.map_nil]); first | done | rfl | (simp only [List.length_drop, List.length_take]; rfl)) ?_
                 with_reducible refine (laws_rgFull.calls k a0_0 a0_1 a0_2 a0_3 b4 b5 b6 b7 _ A3.out).mono ?_
                 rintro e d0 ⟨rfl, hb⟩
                 refine ⟨_, rfl, ?_⟩
                 have n0_ := aM (bB (g := a0) (o := .cells #[.int .i64 a0_0, .int .i64 a0_1, .int .i64 a0_2, .int .i64 a0_3] 44 (0, 0)) (by (with_reducible repeat (first | refine bN ?_ _ | refine bD ?_ | refine bA ?_ _)); exact a2.out) hb)
                 have n1_ := aM (bB (g := a1) (o := .cells #[.int .i64 a1_0, .int .i64 a1_1, .int .i64 a1_2, .int .i64 a1_3] 44 (0, 0)) (by (with_reducible repeat (first | refine bN ?_ _ | refine bD ?_ | refine bA ?_ _)); exact a3.out) hb)
                 have n2_ := aM (bB (g := a4) (o := .cells #[.int .i64 0, .int .i64 0, .int .i64 0, .int .i64 0] 44 (0, 0)) (by (with_reducible repeat (first | refine bN ?_ _ | refine bD ?_ | refine bA ?_ _)); exact a6.out) hb)
                 have n3_ := aM (wP (by repeat (first | (with_reducible first | exact HB.out | apply wA | apply wN | apply wD | refine wS ?_ b2.out | refine wS ?_ b3.out | refine wS ?_ b8.out) | exact HB.out)) hb)
                 clear a2
                 clear a3
                 clear a6
                 clear HB
                 have a2 := n0_
                 have a3 := n1_
                 have a6 := n2_
                 have HB := n3_
                 clear n0_ n1_ n2_ n3_
                 (try clear hb)
                 (try clear hb2)
                 (try clear hk)
                 (try clear hi)
                 refine hK.out _ _ ⟨(blk_cell a2.out 0).trans rfl, (blk_cell a2.out 1).trans rfl, (blk_cell a2.out 2).trans rfl, (blk_cell a2.out 3).trans rfl, (blk_cell a3.out 0).trans rfl, (blk_cell a3.out 1).trans rfl, (blk_cell a3.out 2).trans rfl, (blk_cell a3.out 3).trans rfl⟩ (fun hHeld => ?_)
                 clear hK K
                 refine norm_ (a' := ?_) ?_ ?_
                 rotate_left
                 ·show Act.put _ (some 14) _ = _
                  simp only [Act.put, List.setIfInBounds_toArray, List.set_cons_zero, List.set_cons_succ, i64_w, i32_w]
                  rfl
                 exact norm_ (by first | (simp only [putAll, Act.put, List.setIfInBounds_toArray, List.set_cons_zero, List.set_cons_succ]; done) | (simp only [putAll, Act.put, List.setIfInBounds_toArray, List.set_cons_zero, List.set_cons_succ]; rfl)) (n3 (a4) _ ⟨hHeld, (by (with_reducible repeat (first | refine bN ?_ _ | refine bD ?_ | refine bA ?_ _)); exact a2.out), (by (with_reducible repeat (first | refine bN ?_ _ | refine bD ?_ | refine bA ?_ _)); exact a3.out), (by (with_reducible repeat (first | refine bN ?_ _ | refine bD ?_ | refine bA ?_ _)); exact a6.out), f3.out, b8.out, a8.out, c1.out, a9.out, c2.out, (by repeat (first | (with_reducible first | exact HB.out | apply wA | apply wN | apply wD | refine wS ?_ b2.out | refine wS ?_ b3.out | refine wS ?_ b8.out) | exact HB.out))⟩)
                ·skip
                 refine box_step ?hg (N := 6) ?hd (cs := #[.int .i64 0, .int .i64 0, .int .i64 0, .int .i64 0]) (t := 44) ?hr ?_; (case hd => rfl); (case hg => rfl); (case hr => first | (go_simp; done) | (go_simp; rfl))
                 intro a5 hg d0 hbox hb
                 have n0_ := aM (bB (g := a0) (o := .cells #[.int .i64 a0_0, .int .i64 a0_1, .int .i64 a0_2, .int .i64 a0_3] 44 (0, 0)) (by (with_reducible repeat (first | refine bN ?_ _ | refine bD ?_ | refine bA ?_ _)); exact a2.out) hb)
                 have n1_ := aM (bB (g := a1) (o := .cells #[.int .i64 a1_0, .int .i64 a1_1, .int .i64 a1_2, .int .i64 a1_3] 44 (0, 0)) (by (with_reducible repeat (first | refine bN ?_ _ | refine bD ?_ | refine bA ?_ _)); exact a3.out) hb)
                 have n2_ := aM (bB (g := a4) (o := .cells #[.int .i64 0, .int .i64 0, .int .i64 0, .int .i64 0] 44 (0, 0)) (by (with_reducible repeat (first | refine bN ?_ _ | refine bD ?_ | refine bA ?_ _)); exact a6.out) hb)
                 have n3_ := aM (wP (by repeat (first | (with_reducible first | exact HB.out | apply wA | apply wN | apply wD | refine wS ?_ b2.out | refine wS ?_ b3.out | refine wS ?_ b8.out) | exact HB.out)) hb)
                 have n4_ := aM (hbox)
                 have n5_ := aM ((by rw [hg]; exact (below_size (by repeat (first | (with_reducible first | exact HB.out | apply wA | apply wN | apply wD | refine wS ?_ b2.out | refine wS ?_ b3.out | refine wS ?_ b8.out) | exact HB.out))) : w.heap.size ≤ a5))
                 have n6_ := aM ((by rw [hg]; exact (below_size (by repeat (first | (with_reducible first | exact HB.out | apply wA | apply wN | apply wD | refine wS ?_ b2.out | refine wS ?_ b3.out | refine wS ?_ b8.out) | exact HB.out))) : w.heap.size ≤ a5))
                 have n7_ := aM ((by rw [hg]; exact Nat.ne_of_lt (bL (g := a0) (o := .cells #[.int .i64 a0_0, .int .i64 a0_1, .int .i64 a0_2, .int .i64 a0_3] 44 (0, 0)) (by (with_reducible repeat (first | refine bN ?_ _ | refine bD ?_ | refine bA ?_ _)); exact a2.out)) : a0 ≠ a5))
                 have n8_ := aM ((by rw [hg]; exact Nat.ne_of_gt (bL (g := a0) (o := .cells #[.int .i64 a0_0, .int .i64 a0_1, .int .i64 a0_2, .int .i64 a0_3] 44 (0, 0)) (by (with_reducible repeat (first | refine bN ?_ _ | refine bD ?_ | refine bA ?_ _)); exact a2.out)) : a5 ≠ a0))
                 have n9_ := aM ((by rw [hg]; exact Nat.ne_of_lt (bL (g := a1) (o := .cells #[.int .i64 a1_0, .int .i64 a1_1, .int .i64 a1_2, .int .i64 a1_3] 44 (0, 0)) (by (with_reducible repeat (first | refine bN ?_ _ | refine bD ?_ | refine bA ?_ _)); exact a3.out)) : a1 ≠ a5))
                 have e7 := aM ((by rw [hg]; exact Nat.ne_of_gt (bL (g := a1) (o := .cells #[.int .i64 a1_0, .int .i64 a1_1, .int .i64 a1_2, .int .i64 a1_3] 44 (0, 0)) (by (with_reducible repeat (first | refine bN ?_ _ | refine bD ?_ | refine bA ?_ _)); exact a3.out)) : a5 ≠ a1))
                 have e8 := aM ((by rw [hg]; exact Nat.ne_of_lt (bL (g := a4) (o := .cells #[.int .i64 0, .int .i64 0, .int .i64 0, .int .i64 0] 44 (0, 0)) (by (with_reducible repeat (first | refine bN ?_ _ | refine bD ?_ | refine bA ?_ _)); exact a6.out)) : a4 ≠ a5))
                 have e9 := aM ((by rw [hg]; exact Nat.ne_of_gt (bL (g := a4) (o := .cells #[.int .i64 0, .int .i64 0, .int .i64 0, .int .i64 0] 44 (0, 0)) (by (with_reducible repeat (first | refine bN ?_ _ | refine bD ?_ | refine bA ?_ _)); exact a6.out)) : a5 ≠ a4))
                 clear a2
                 clear a3
                 clear a6
                 clear HB
                 have a2 := n0_
                 have a3 := n1_
                 have a6 := n2_
                 have HB := n3_
                 have a7 := n4_
                 have f4 := n5_
                 have b9 := n6_
                 have b0 := n7_
                 have c3 := n8_
                 have b1 := n9_
                 have c4 := e7
                 have c6 := e8
                 have c5 := e9
                 clear n0_ n1_ n2_ n3_ n4_ n5_ n6_ n7_ n8_ n9_ e7 e8 e9
                 clear hb hbox hg
                 refine hK.out _ _ ⟨(blk_cell a2.out 0).trans rfl, (blk_cell a2.out 1).trans rfl, (blk_cell a2.out 2).trans rfl, (blk_cell a2.out 3).trans rfl, (blk_cell a3.out 0).trans rfl, (blk_cell a3.out 1).trans rfl, (blk_cell a3.out 2).trans rfl, (blk_cell a3.out 3).trans rfl⟩ (fun hHeld => ?_)
                 clear hK K
                 refine norm_ (a' := ?_) ?_ ?_
                 rotate_left
                 ·show Act.put _ (some 6) _ = _
                  simp only [Act.put, List.setIfInBounds_toArray, List.set_cons_zero, List.set_cons_succ, i64_w, i32_w]
                  rfl
                 exact norm_ (by first | (simp only [putAll, Act.put, List.setIfInBounds_toArray, List.set_cons_zero, List.set_cons_succ]; done) | (simp only [putAll, Act.put, List.setIfInBounds_toArray, List.set_cons_zero, List.set_cons_succ]; rfl)) (n5 (a4, a5) _ ⟨hHeld, (by (with_reducible repeat (first | refine bN ?_ _ | refine bD ?_ | refine bA ?_ _)); exact a2.out), (by (with_reducible repeat (first | refine bN ?_ _ | refine bD ?_ | refine bA ?_ _)); exact a3.out), (by (with_reducible repeat (first | refine bN ?_ _ | refine bD ?_ | refine bA ?_ _)); exact a6.out), (by (with_reducible repeat (first | refine bN ?_ _ | refine bD ?_ | refine bA ?_ _)); exact a7.out), f3.out, b8.out, a8.out, c1.out, a9.out, c2.out, c5.out, c6.out, f4.out, b9.out, b0.out, c3.out, b1.out, c4.out, (by repeat (first | (with_reducible first | exact HB.out | apply wA | apply wN | apply wD | refine wS ?_ b2.out | refine wS ?_ b3.out | refine wS ?_ b8.out | refine wS ?_ b9.out) | exact HB.out))⟩)
              ·skip
               rintro _ d8 ⟨hS_, h0_, h1_, h2_⟩
               have n0_ : Aside0 (d8.heap[a0]? = some (.cells #[.int .i64 a0_0, .int .i64 a0_1, .int .i64 a0_2, .int .i64 a0_3] 44 (0, 0))) := ⟨h0_⟩
               have n1_ : Aside0 (d8.heap[a1]? = some (.cells #[.int .i64 a1_0, .int .i64 a1_1, .int .i64 a1_2, .int .i64 a1_3] 44 (0, 0))) := ⟨h1_⟩
               have n2_ : Aside0 (Below w.heap.size w d8) := ⟨h2_⟩
               clear a2
               clear a3
               clear HB
               clear h0_ h1_ h2_
               have a2 := n0_
               have a3 := n1_
               have HB := n2_
               clear n0_ n1_ n2_
               have hHeld : d8.cell? ⟨a0, 0, none⟩ = some (.int .i64 a0_0) ∧ d8.cell? ⟨a0, 1, none⟩ = some (.int .i64 a0_1) ∧ d8.cell? ⟨a0, 2, none⟩ = some (.int .i64 a0_2) ∧ d8.cell? ⟨a0, 3, none⟩ = some (.int .i64 a0_3) ∧ d8.cell? ⟨a1, 0, none⟩ = some (.int .i64 a1_0) ∧ d8.cell? ⟨a1, 1, none⟩ = some (.int .i64 a1_1) ∧ d8.cell? ⟨a1, 2, none⟩ = some (.int .i64 a1_2) ∧ d8.cell? ⟨a1, 3, none⟩ = some (.int .i64 a1_3) := hS_
               refine norm_ (a' := ?_) ?_ ?_
               rotate_left
               ·simp only [putAll, Act.put, List.setIfInBounds_toArray, List.set_cons_zero, List.set_cons_succ]
                rfl
               refine three_ (i := 3) (j := 4) (k := 5) (Ni := some 16) (Nj := some 5) (Nk := some 6) #[true, true, true, true, false, false, false, false] #[true, true, true, false, true, false, false, false] #[true, true, true, false, false, true, false, false] rfl rfl rfl rfl rfl rfl (three_of HT_.out (by kernel_rfl)) (by decide) (by decide) (by decide) (fun K hK => ?_) (fun K hK => ?_) (fun K hK => ?_)
               ·skip
                refine goes_ Tryd.func21 (by kernel_rfl) rfl #[.agg #[.int .i64 a1_0, .int .i64 a1_1, .int .i64 a1_2, .int .i64 a1_3]] (by rfl) rfl rfl (by (try simp only [List.map_toArray, List.map_cons, List.map_nil]); first | done | rfl | (simp only [List.length_drop, List.length_take]; rfl)) ?_
                with_reducible refine (laws_rgFull.calls k a1_0 a1_1 a1_2 a1_3 d4 d5 d6 d7 _ A4.out).mono ?_
                rintro e d0 ⟨rfl, hb⟩
                refine ⟨_, rfl, ?_⟩
                have n0_ := aM (bB (g := a0) (o := .cells #[.int .i64 a0_0, .int .i64 a0_1, .int .i64 a0_2, .int .i64 a0_3] 44 (0, 0)) (by (with_reducible repeat (first | refine bN ?_ _ | refine bD ?_ | refine bA ?_ _)); exact a2.out) hb)
                have n1_ := aM (bB (g := a1) (o := .cells #[.int .i64 a1_0, .int .i64 a1_1, .int .i64 a1_2, .int .i64 a1_3] 44 (0, 0)) (by (with_reducible repeat (first | refine bN ?_ _ | refine bD ?_ | refine bA ?_ _)); exact a3.out) hb)
                have n2_ := aM (wP (by repeat (first | (with_reducible first | exact HB.out | apply wA | apply wN | apply wD | refine wS ?_ b2.out | refine wS ?_ b3.out) | exact HB.out)) hb)
                clear a2
                clear a3
                clear HB
                have a2 := n0_
                have a3 := n1_
                have HB := n2_
                clear n0_ n1_ n2_
                (try clear hb)
                (try clear hb2)
                (try clear hk)
                (try clear hi)
                refine hK.out _ _ ⟨(blk_cell a2.out 0).trans rfl, (blk_cell a2.out 1).trans rfl, (blk_cell a2.out 2).trans rfl, (blk_cell a2.out 3).trans rfl, (blk_cell a3.out 0).trans rfl, (blk_cell a3.out 1).trans rfl, (blk_cell a3.out 2).trans rfl, (blk_cell a3.out 3).trans rfl⟩ (fun hHeld => ?_)
                clear hK K
                refine norm_ (a' := ?_) ?_ ?_
                rotate_left
                ·show Act.put _ (some 16) _ = _
                 simp only [Act.put, List.setIfInBounds_toArray, List.set_cons_zero, List.set_cons_succ, i64_w, i32_w]
                 rfl
                exact norm_ (by first | (simp only [putAll, Act.put, List.setIfInBounds_toArray, List.set_cons_zero, List.set_cons_succ]; done) | (simp only [putAll, Act.put, List.setIfInBounds_toArray, List.set_cons_zero, List.set_cons_succ]; rfl)) (o0 () _ ⟨hHeld, (by (with_reducible repeat (first | refine bN ?_ _ | refine bD ?_ | refine bA ?_ _)); exact a2.out), (by (with_reducible repeat (first | refine bN ?_ _ | refine bD ?_ | refine bA ?_ _)); exact a3.out), (by repeat (first | (with_reducible first | exact HB.out | apply wA | apply wN | apply wD | refine wS ?_ b2.out | refine wS ?_ b3.out) | exact HB.out))⟩)
               ·skip
                refine box_step ?hg (N := 5) ?hd (cs := #[.int .i64 0, .int .i64 0, .int .i64 0, .int .i64 0]) (t := 44) ?hr ?_; (case hd => rfl); (case hg => rfl); (case hr => first | (go_simp; done) | (go_simp; rfl))
                intro a4 hg d0 hbox hb
                have n0_ := aM (bB (g := a0) (o := .cells #[.int .i64 a0_0, .int .i64 a0_1, .int .i64 a0_2, .int .i64 a0_3] 44 (0, 0)) (by (with_reducible repeat (first | refine bN ?_ _ | refine bD ?_ | refine bA ?_ _)); exact a2.out) hb)
                have n1_ := aM (bB (g := a1) (o := .cells #[.int .i64 a1_0, .int .i64 a1_1, .int .i64 a1_2, .int .i64 a1_3] 44 (0, 0)) (by (with_reducible repeat (first | refine bN ?_ _ | refine bD ?_ | refine bA ?_ _)); exact a3.out) hb)
                have n2_ := aM (wP (by repeat (first | (with_reducible first | exact HB.out | apply wA | apply wN | apply wD | refine wS ?_ b2.out | refine wS ?_ b3.out) | exact HB.out)) hb)
                have n3_ := aM (hbox)
                have n4_ := aM ((by rw [hg]; exact (below_size (by repeat (first | (with_reducible first | exact HB.out | apply wA | apply wN | apply wD | refine wS ?_ b2.out | refine wS ?_ b3.out) | exact HB.out))) : w.heap.size ≤ a4))
                have n5_ := aM ((by rw [hg]; exact (below_size (by repeat (first | (with_reducible first | exact HB.out | apply wA | apply wN | apply wD | refine wS ?_ b2.out | refine wS ?_ b3.out) | exact HB.out))) : w.heap.size ≤ a4))
                have n6_ := aM ((by rw [hg]; exact Nat.ne_of_lt (bL (g := a0) (o := .cells #[.int .i64 a0_0, .int .i64 a0_1, .int .i64 a0_2, .int .i64 a0_3] 44 (0, 0)) (by (with_reducible repeat (first | refine bN ?_ _ | refine bD ?_ | refine bA ?_ _)); exact a2.out)) : a0 ≠ a4))
                have n7_ := aM ((by rw [hg]; exact Nat.ne_of_gt (bL (g := a0) (o := .cells #[.int .i64 a0_0, .int .i64 a0_1, .int .i64 a0_2, .int .i64 a0_3] 44 (0, 0)) (by (with_reducible repeat (first | refine bN ?_ _ | refine bD ?_ | refine bA ?_ _)); exact a2.out)) : a4 ≠ a0))
                have n8_ := aM ((by rw [hg]; exact Nat.ne_of_lt (bL (g := a1) (o := .cells #[.int .i64 a1_0, .int .i64 a1_1, .int .i64 a1_2, .int .i64 a1_3] 44 (0, 0)) (by (with_reducible repeat (first | refine bN ?_ _ | refine bD ?_ | refine bA ?_ _)); exact a3.out)) : a1 ≠ a4))
                have n9_ := aM ((by rw [hg]; exact Nat.ne_of_gt (bL (g := a1) (o := .cells #[.int .i64 a1_0, .int .i64 a1_1, .int .i64 a1_2, .int .i64 a1_3] 44 (0, 0)) (by (with_reducible repeat (first | refine bN ?_ _ | refine bD ?_ | refine bA ?_ _)); exact a3.out)) : a4 ≠ a1))
                clear a2
                clear a3
                clear HB
                have a2 := n0_
                have a3 := n1_
                have HB := n2_
                have a6 := n3_
                have f3 := n4_
                have b8 := n5_
                have a8 := n6_
                have c1 := n7_
                have a9 := n8_
                have c2 := n9_
                clear n0_ n1_ n2_ n3_ n4_ n5_ n6_ n7_ n8_ n9_
                clear hb hbox hg
                refine hK.out _ _ ⟨(blk_cell a2.out 0).trans rfl, (blk_cell a2.out 1).trans rfl, (blk_cell a2.out 2).trans rfl, (blk_cell a2.out 3).trans rfl, (blk_cell a3.out 0).trans rfl, (blk_cell a3.out 1).trans rfl, (blk_cell a3.out 2).trans rfl, (blk_cell a3.out 3).trans rfl⟩ (fun hHeld => ?_)
                clear hK K
                refine norm_ (a' := ?_) ?_ ?_
                rotate_left
                ·show Act.put _ (some 5) _ = _
                 simp only [Act.put, List.setIfInBounds_toArray, List.set_cons_zero, List.set_cons_succ, i64_w, i32_w]
                 rfl
                exact norm_ (by first | (simp only [putAll, Act.put, List.setIfInBounds_toArray, List.set_cons_zero, List.set_cons_succ]; done) | (simp only [putAll, Act.put, List.setIfInBounds_toArray, List.set_cons_zero, List.set_cons_succ]; rfl)) (n3 (a4) _ ⟨hHeld, (by (with_reducible repeat (first | refine bN ?_ _ | refine bD ?_ | refine bA ?_ _)); exact a2.out), (by (with_reducible repeat (first | refine bN ?_ _ | refine bD ?_ | refine bA ?_ _)); exact a3.out), (by (with_reducible repeat (first | refine bN ?_ _ | refine bD ?_ | refine bA ?_ _)); exact a6.out), f3.out, b8.out, a8.out, c1.out, a9.out, c2.out, (by repeat (first | (with_reducible first | exact HB.out | apply wA | apply wN | apply wD | refine wS ?_ b2.out | refine wS ?_ b3.out | refine wS ?_ b8.out) | exact HB.out))⟩)
               ·skip
                refine box_step ?hg (N := 6) ?hd (cs := #[.int .i64 0, .int .i64 0, .int .i64 0, .int .i64 0]) (t := 44) ?hr ?_; (case hd => rfl); (case hg => rfl); (case hr => first | (go_simp; done) | (go_simp; rfl))
                intro a5 hg d0 hbox hb
                have n0_ := aM (bB (g := a0) (o := .cells #[.int .i64 a0_0, .int .i64 a0_1, .int .i64 a0_2, .int .i64 a0_3] 44 (0, 0)) (by (with_reducible repeat (first | refine bN ?_ _ | refine bD ?_ | refine bA ?_ _)); exact a2.out) hb)
                have n1_ := aM (bB (g := a1) (o := .cells #[.int .i64 a1_0, .int .i64 a1_1, .int .i64 a1_2, .int .i64 a1_3] 44 (0, 0)) (by (with_reducible repeat (first | refine bN ?_ _ | refine bD ?_ | refine bA ?_ _)); exact a3.out) hb)
                have n2_ := aM (wP (by repeat (first | (with_reducible first | exact HB.out | apply wA | apply wN | apply wD | refine wS ?_ b2.out | refine wS ?_ b3.out) | exact HB.out)) hb)
                have n3_ := aM (hbox)
                have n4_ := aM ((by rw [hg]; exact (below_size (by repeat (first | (with_reducible first | exact HB.out | apply wA | apply wN | apply wD | refine wS ?_ b2.out | refine wS ?_ b3.out) | exact HB.out))) : w.heap.size ≤ a5))
                have n5_ := aM ((by rw [hg]; exact (below_size (by repeat (first | (with_reducible first | exact HB.out | apply wA | apply wN | apply wD | refine wS ?_ b2.out | refine wS ?_ b3.out) | exact HB.out))) : w.heap.size ≤ a5))
                have n6_ := aM ((by rw [hg]; exact Nat.ne_of_lt (bL (g := a0) (o := .cells #[.int .i64 a0_0, .int .i64 a0_1, .int .i64 a0_2, .int .i64 a0_3] 44 (0, 0)) (by (with_reducible repeat (first | refine bN ?_ _ | refine bD ?_ | refine bA ?_ _)); exact a2.out)) : a0 ≠ a5))
                have n7_ := aM ((by rw [hg]; exact Nat.ne_of_gt (bL (g := a0) (o := .cells #[.int .i64 a0_0, .int .i64 a0_1, .int .i64 a0_2, .int .i64 a0_3] 44 (0, 0)) (by (with_reducible repeat (first | refine bN ?_ _ | refine bD ?_ | refine bA ?_ _)); exact a2.out)) : a5 ≠ a0))
                have n8_ := aM ((by rw [hg]; exact Nat.ne_of_lt (bL (g := a1) (o := .cells #[.int .i64 a1_0, .int .i64 a1_1, .int .i64 a1_2, .int .i64 a1_3] 44 (0, 0)) (by (with_reducible repeat (first | refine bN ?_ _ | refine bD ?_ | refine bA ?_ _)); exact a3.out)) : a1 ≠ a5))
                have n9_ := aM ((by rw [hg]; exact Nat.ne_of_gt (bL (g := a1) (o := .cells #[.int .i64 a1_0, .int .i64 a1_1, .int .i64 a1_2, .int .i64 a1_3] 44 (0, 0)) (by (with_reducible repeat (first | refine bN ?_ _ | refine bD ?_ | refine bA ?_ _)); exact a3.out)) : a5 ≠ a1))
                clear a2
                clear a3
                clear HB
                have a2 := n0_
                have a3 := n1_
                have HB := n2_
                have a7 := n3_
                have f4 := n4_
                have b9 := n5_
                have b0 := n6_
                have c3 := n7_
                have b1 := n8_
                have c4 := n9_
                clear n0_ n1_ n2_ n3_ n4_ n5_ n6_ n7_ n8_ n9_
                clear hb hbox hg
                refine hK.out _ _ ⟨(blk_cell a2.out 0).trans rfl, (blk_cell a2.out 1).trans rfl, (blk_cell a2.out 2).trans rfl, (blk_cell a2.out 3).trans rfl, (blk_cell a3.out 0).trans rfl, (blk_cell a3.out 1).trans rfl, (blk_cell a3.out 2).trans rfl, (blk_cell a3.out 3).trans rfl⟩ (fun hHeld => ?_)
                clear hK K
                refine norm_ (a' := ?_) ?_ ?_
                rotate_left
                ·show Act.put _ (some 6) _ = _
                 simp only [Act.put, List.setIfInBounds_toArray, List.set_cons_zero, List.set_cons_succ, i64_w, i32_w]
                 rfl
                exact norm_ (by first | (simp only [putAll, Act.put, List.setIfInBounds_toArray, List.set_cons_zero, List.set_cons_succ]; done) | (simp only [putAll, Act.put, List.setIfInBounds_toArray, List.set_cons_zero, List.set_cons_succ]; rfl)) (n4 (a5) _ ⟨hHeld, (by (with_reducible repeat (first | refine bN ?_ _ | refine bD ?_ | refine bA ?_ _)); exact a2.out), (by (with_reducible repeat (first | refine bN ?_ _ | refine bD ?_ | refine bA ?_ _)); exact a3.out), (by (with_reducible repeat (first | refine bN ?_ _ | refine bD ?_ | refine bA ?_ _)); exact a7.out), f4.out, b9.out, b0.out, c3.out, b1.out, c4.out, (by repeat (first | (with_reducible first | exact HB.out | apply wA | apply wN | apply wD | refine wS ?_ b2.out | refine wS ?_ b3.out | refine wS ?_ b9.out) | exact HB.out))⟩)
             ·skip
              rintro ⟨a4, a5⟩ d0 ⟨hS_, h0_, h1_, h2_, h3_, h4_, h5_, h6_, h7_, h8_, h9_, j6, j7, j8, j9, l0, l1, l2, l3, l4⟩
              have n0_ : Aside0 (d0.heap[a0]? = some (.cells #[.int .i64 a0_0, .int .i64 a0_1, .int .i64 a0_2, .int .i64 a0_3] 44 (0, 0))) := ⟨h0_⟩
              have n1_ : Aside0 (d0.heap[a1]? = some (.cells #[.int .i64 a1_0, .int .i64 a1_1, .int .i64 a1_2, .int .i64 a1_3] 44 (0, 0))) := ⟨h1_⟩
              have n2_ : Aside0 (d0.heap[a4]? = some (.cells #[.int .i64 0, .int .i64 0, .int .i64 0, .int .i64 0] 44 (0, 0))) := ⟨h2_⟩
              have n3_ : Aside0 (d0.heap[a5]? = some (.cells #[.int .i64 0, .int .i64 0, .int .i64 0, .int .i64 0] 44 (0, 0))) := ⟨h3_⟩
              have n4_ : Aside0 (w.heap.size ≤ a4) := ⟨h4_⟩
              have n5_ : Aside0 (w.heap.size ≤ a4) := ⟨h5_⟩
              have n6_ : Aside0 (a0 ≠ a4) := ⟨h6_⟩
              have n7_ : Aside0 (a4 ≠ a0) := ⟨h7_⟩
              have n8_ : Aside0 (a1 ≠ a4) := ⟨h8_⟩
              have n9_ : Aside0 (a4 ≠ a1) := ⟨h9_⟩
              have e7 : Aside0 (a5 ≠ a4) := ⟨j6⟩
              have e8 : Aside0 (a4 ≠ a5) := ⟨j7⟩
              have e9 : Aside0 (w.heap.size ≤ a5) := ⟨j8⟩
              have g8 : Aside0 (w.heap.size ≤ a5) := ⟨j9⟩
              have g9 : Aside0 (a0 ≠ a5) := ⟨l0⟩
              have h0 : Aside0 (a5 ≠ a0) := ⟨l1⟩
              have j1 : Aside0 (a1 ≠ a5) := ⟨l2⟩
              have j2 : Aside0 (a5 ≠ a1) := ⟨l3⟩
              have j3 : Aside0 (Below w.heap.size w d0) := ⟨l4⟩
              clear a2
              clear a3
              clear HB
              clear h0_ h1_ h2_ h3_ h4_ h5_ h6_ h7_ h8_ h9_ j6 j7 j8 j9 l0 l1 l2 l3 l4
              have a2 := n0_
              have a3 := n1_
              have a6 := n2_
              have a7 := n3_
              have f3 := n4_
              have b8 := n5_
              have a8 := n6_
              have c1 := n7_
              have a9 := n8_
              have c2 := n9_
              have c5 := e7
              have c6 := e8
              have f4 := e9
              have b9 := g8
              have b0 := g9
              have c3 := h0
              have b1 := j1
              have c4 := j2
              have HB := j3
              clear n0_ n1_ n2_ n3_ n4_ n5_ n6_ n7_ n8_ n9_ e7 e8 e9 g8 g9 h0 j1 j2 j3
              have hHeld : d0.cell? ⟨a0, 0, none⟩ = some (.int .i64 a0_0) ∧ d0.cell? ⟨a0, 1, none⟩ = some (.int .i64 a0_1) ∧ d0.cell? ⟨a0, 2, none⟩ = some (.int .i64 a0_2) ∧ d0.cell? ⟨a0, 3, none⟩ = some (.int .i64 a0_3) ∧ d0.cell? ⟨a1, 0, none⟩ = some (.int .i64 a1_0) ∧ d0.cell? ⟨a1, 1, none⟩ = some (.int .i64 a1_1) ∧ d0.cell? ⟨a1, 2, none⟩ = some (.int .i64 a1_2) ∧ d0.cell? ⟨a1, 3, none⟩ = some (.int .i64 a1_3) := hS_
              refine norm_ (a' := ?_) ?_ ?_
              rotate_left
              ·simp only [putAll, Act.put, List.setIfInBounds_toArray, List.set_cons_zero, List.set_cons_succ]
               rfl
              refine one_ (i := 1) (N := some 14) #[true, true, true, false, true, true, false, false] rfl rfl (one_of HT_.out (by kernel_rfl)) (by decide) (fun K hK => ?_)
              refine goes_ Tryd.func21 (by kernel_rfl) rfl #[.agg #[.int .i64 a0_0, .int .i64 a0_1, .int .i64 a0_2, .int .i64 a0_3]] (by rfl) rfl rfl (by (try simp only [List.map_toArray, List.map_cons, List.map_nil]); first | done | rfl | (simp only [List.length_drop, List.length_take]; rfl)) ?_
              with_reducible refine (laws_rgFull.calls k a0_0 a0_1 a0_2 a0_3 b4 b5 b6 b7 _ A3.out).mono ?_
              rintro e d2 ⟨rfl, hb⟩
              refine ⟨_, rfl, ?_⟩
              have n0_ := aM (bB (g := a0) (o := .cells #[.int .i64 a0_0, .int .i64 a0_1, .int .i64 a0_2, .int .i64 a0_3] 44 (0, 0)) (by (with_reducible repeat (first | refine bN ?_ _ | refine bD ?_ | refine bA ?_ _)); exact a2.out) hb)
              have n1_ := aM (bB (g := a1) (o := .cells #[.int .i64 a1_0, .int .i64 a1_1, .int .i64 a1_2, .int .i64 a1_3] 44 (0, 0)) (by (with_reducible repeat (first | refine bN ?_ _ | refine bD ?_ | refine bA ?_ _)); exact a3.out) hb)
              have n2_ := aM (bB (g := a4) (o := .cells #[.int .i64 0, .int .i64 0, .int .i64 0, .int .i64 0] 44 (0, 0)) (by (with_reducible repeat (first | refine bN ?_ _ | refine bD ?_ | refine bA ?_ _)); exact a6.out) hb)
              have n3_ := aM (bB (g := a5) (o := .cells #[.int .i64 0, .int .i64 0, .int .i64 0, .int .i64 0] 44 (0, 0)) (by (with_reducible repeat (first | refine bN ?_ _ | refine bD ?_ | refine bA ?_ _)); exact a7.out) hb)
              have n4_ := aM (wP (by repeat (first | (with_reducible first | exact HB.out | apply wA | apply wN | apply wD | refine wS ?_ b2.out | refine wS ?_ b3.out | refine wS ?_ b8.out | refine wS ?_ b9.out) | exact HB.out)) hb)
              clear a2
              clear a3
              clear a6
              clear a7
              clear HB
              have a2 := n0_
              have a3 := n1_
              have a6 := n2_
              have a7 := n3_
              have HB := n4_
              clear n0_ n1_ n2_ n3_ n4_
              (try clear hb)
              (try clear hb2)
              (try clear hk)
              (try clear hi)
              refine hK.out _ _ ⟨(blk_cell a2.out 0).trans rfl, (blk_cell a2.out 1).trans rfl, (blk_cell a2.out 2).trans rfl, (blk_cell a2.out 3).trans rfl, (blk_cell a3.out 0).trans rfl, (blk_cell a3.out 1).trans rfl, (blk_cell a3.out 2).trans rfl, (blk_cell a3.out 3).trans rfl⟩ (fun hHeld => ?_)
              clear hK K
              refine norm_ (a' := ?_) ?_ ?_
              rotate_left
              ·show Act.put _ (some 14) _ = _
               simp only [Act.put, List.setIfInBounds_toArray, List.set_cons_zero, List.set_cons_succ, i64_w, i32_w]
               rfl
              exact norm_ (by first | (simp only [putAll, Act.put, List.setIfInBounds_toArray, List.set_cons_zero, List.set_cons_succ]; done) | (simp only [putAll, Act.put, List.setIfInBounds_toArray, List.set_cons_zero, List.set_cons_succ]; rfl)) (l6 (a4, a5) _ ⟨hHeld, (by (with_reducible repeat (first | refine bN ?_ _ | refine bD ?_ | refine bA ?_ _)); exact a2.out), (by (with_reducible repeat (first | refine bN ?_ _ | refine bD ?_ | refine bA ?_ _)); exact a3.out), (by (with_reducible repeat (first | refine bN ?_ _ | refine bD ?_ | refine bA ?_ _)); exact a6.out), (by (with_reducible repeat (first | refine bN ?_ _ | refine bD ?_ | refine bA ?_ _)); exact a7.out), f3.out, b8.out, a8.out, c1.out, a9.out, c2.out, c5.out, c6.out, f4.out, b9.out, b0.out, c3.out, b1.out, c4.out, (by repeat (first | (with_reducible first | exact HB.out | apply wA | apply wN | apply wD | refine wS ?_ b2.out | refine wS ?_ b3.out | refine wS ?_ b8.out | refine wS ?_ b9.out) | exact HB.out))⟩)
            ·skip
             rintro a5 d0 ⟨hS_, h0_, h1_, h2_, h3_, h4_, h5_, h6_, h7_, h8_, h9_⟩
             have n0_ : Aside0 (d0.heap[a0]? = some (.cells #[.int .i64 a0_0, .int .i64 a0_1, .int .i64 a0_2, .int .i64 a0_3] 44 (0, 0))) := ⟨h0_⟩
             have n1_ : Aside0 (d0.heap[a1]? = some (.cells #[.int .i64 a1_0, .int .i64 a1_1, .int .i64 a1_2, .int .i64 a1_3] 44 (0, 0))) := ⟨h1_⟩
             have n2_ : Aside0 (d0.heap[a5]? = some (.cells #[.int .i64 0, .int .i64 0, .int .i64 0, .int .i64 0] 44 (0, 0))) := ⟨h2_⟩
             have n3_ : Aside0 (w.heap.size ≤ a5) := ⟨h3_⟩
             have n4_ : Aside0 (w.heap.size ≤ a5) := ⟨h4_⟩
             have n5_ : Aside0 (a0 ≠ a5) := ⟨h5_⟩
             have n6_ : Aside0 (a5 ≠ a0) := ⟨h6_⟩
             have n7_ : Aside0 (a1 ≠ a5) := ⟨h7_⟩
             have n8_ : Aside0 (a5 ≠ a1) := ⟨h8_⟩
             have n9_ : Aside0 (Below w.heap.size w d0) := ⟨h9_⟩
             clear a2
             clear a3
             clear HB
             clear h0_ h1_ h2_ h3_ h4_ h5_ h6_ h7_ h8_ h9_
             have a2 := n0_
             have a3 := n1_
             have a7 := n2_
             have f4 := n3_
             have b9 := n4_
             have b0 := n5_
             have c3 := n6_
             have b1 := n7_
             have c4 := n8_
             have HB := n9_
             clear n0_ n1_ n2_ n3_ n4_ n5_ n6_ n7_ n8_ n9_
             have hHeld : d0.cell? ⟨a0, 0, none⟩ = some (.int .i64 a0_0) ∧ d0.cell? ⟨a0, 1, none⟩ = some (.int .i64 a0_1) ∧ d0.cell? ⟨a0, 2, none⟩ = some (.int .i64 a0_2) ∧ d0.cell? ⟨a0, 3, none⟩ = some (.int .i64 a0_3) ∧ d0.cell? ⟨a1, 0, none⟩ = some (.int .i64 a1_0) ∧ d0.cell? ⟨a1, 1, none⟩ = some (.int .i64 a1_1) ∧ d0.cell? ⟨a1, 2, none⟩ = some (.int .i64 a1_2) ∧ d0.cell? ⟨a1, 3, none⟩ = some (.int .i64 a1_3) := hS_
             refine norm_ (a' := ?_) ?_ ?_
             rotate_left
             ·simp only [putAll, Act.put, List.setIfInBounds_toArray, List.set_cons_zero, List.set_cons_succ]
              rfl
             refine two_ (i := 3) (j := 4) (Ni := some 16) (Nj := some 5) #[true, true, true, true, false, true, false, false] #[true, true, true, false, true, true, false, false] rfl rfl rfl rfl (two_of HT_.out (by kernel_rfl)) (by decide) (by decide) (fun K hK => ?_) (fun K hK => ?_)
             ·skip
              refine goes_ Tryd.func21 (by kernel_rfl) rfl #[.agg #[.int .i64 a1_0, .int .i64 a1_1, .int .i64 a1_2, .int .i64 a1_3]] (by rfl) rfl rfl (by (try simp only [List.map_toArray, List.map_cons, List.map_nil]); first | done | rfl | (simp only [List.length_drop, List.length_take]; rfl)) ?_
              with_reducible refine (laws_rgFull.calls k a1_0 a1_1 a1_2 a1_3 d4 d5 d6 d7 _ A4.out).mono ?_
              rintro e d2 ⟨rfl, hb⟩
              refine ⟨_, rfl, ?_⟩
              have n0_ := aM (bB (g := a0) (o := .cells #[.int .i64 a0_0, .int .i64 a0_1, .int .i64 a0_2, .int .i64 a0_3] 44 (0, 0)) (by (with_reducible repeat (first | refine bN ?_ _ | refine bD ?_ | refine bA ?_ _)); exact a2.out) hb)
              have n1_ := aM (bB (g := a1) (o := .cells #[.int .i64 a1_0, .int .i64 a1_1, .int .i64 a1_2, .int .i64 a1_3] 44 (0, 0)) (by (with_reducible repeat (first | refine bN ?_ _ | refine bD ?_ | refine bA ?_ _)); exact a3.out) hb)
              have n2_ := aM (bB (g := a5) (o := .cells #[.int .i64 0, .int .i64 0, .int .i64 0, .int .i64 0] 44 (0, 0)) (by (with_reducible repeat (first | refine bN ?_ _ | refine bD ?_ | refine bA ?_ _)); exact a7.out) hb)
              have n3_ := aM (wP (by repeat (first | (with_reducible first | exact HB.out | apply wA | apply wN | apply wD | refine wS ?_ b2.out | refine wS ?_ b3.out | refine wS ?_ b9.out) | exact HB.out)) hb)
              clear a2
              clear a3
              clear a7
              clear HB
              have a2 := n0_
              have a3 := n1_
              have a7 := n2_
              have HB := n3_
              clear n0_ n1_ n2_ n3_
              (try clear hb)
              (try clear hb2)
              (try clear hk)
              (try clear hi)
              refine hK.out _ _ ⟨(blk_cell a2.out 0).trans rfl, (blk_cell a2.out 1).trans rfl, (blk_cell a2.out 2).trans rfl, (blk_cell a2.out 3).trans rfl, (blk_cell a3.out 0).trans rfl, (blk_cell a3.out 1).trans rfl, (blk_cell a3.out 2).trans rfl, (blk_cell a3.out 3).trans rfl⟩ (fun hHeld => ?_)
              clear hK K
              refine norm_ (a' := ?_) ?_ ?_
              rotate_left
              ·show Act.put _ (some 16) _ = _
               simp only [Act.put, List.setIfInBounds_toArray, List.set_cons_zero, List.set_cons_succ, i64_w, i32_w]
               rfl
              exact norm_ (by first | (simp only [putAll, Act.put, List.setIfInBounds_toArray, List.set_cons_zero, List.set_cons_succ]; done) | (simp only [putAll, Act.put, List.setIfInBounds_toArray, List.set_cons_zero, List.set_cons_succ]; rfl)) (l9 (a5) _ ⟨hHeld, (by (with_reducible repeat (first | refine bN ?_ _ | refine bD ?_ | refine bA ?_ _)); exact a2.out), (by (with_reducible repeat (first | refine bN ?_ _ | refine bD ?_ | refine bA ?_ _)); exact a3.out), (by (with_reducible repeat (first | refine bN ?_ _ | refine bD ?_ | refine bA ?_ _)); exact a7.out), f4.out, b9.out, b0.out, c3.out, b1.out, c4.out, (by repeat (first | (with_reducible first | exact HB.out | apply wA | apply wN | apply wD | refine wS ?_ b2.out | refine wS ?_ b3.out | refine wS ?_ b9.out) | exact HB.out))⟩)
             ·skip
              refine box_step ?hg (N := 5) ?hd (cs := #[.int .i64 0, .int .i64 0, .int .i64 0, .int .i64 0]) (t := 44) ?hr ?_; (case hd => rfl); (case hg => rfl); (case hr => first | (go_simp; done) | (go_simp; rfl))
              intro a4 hg d2 hbox hb
              have n0_ := aM (bB (g := a0) (o := .cells #[.int .i64 a0_0, .int .i64 a0_1, .int .i64 a0_2, .int .i64 a0_3] 44 (0, 0)) (by (with_reducible repeat (first | refine bN ?_ _ | refine bD ?_ | refine bA ?_ _)); exact a2.out) hb)
              have n1_ := aM (bB (g := a1) (o := .cells #[.int .i64 a1_0, .int .i64 a1_1, .int .i64 a1_2, .int .i64 a1_3] 44 (0, 0)) (by (with_reducible repeat (first | refine bN ?_ _ | refine bD ?_ | refine bA ?_ _)); exact a3.out) hb)
              have n2_ := aM (bB (g := a5) (o := .cells #[.int .i64 0, .int .i64 0, .int .i64 0, .int .i64 0] 44 (0, 0)) (by (with_reducible repeat (first | refine bN ?_ _ | refine bD ?_ | refine bA ?_ _)); exact a7.out) hb)
              have n3_ := aM (wP (by repeat (first | (with_reducible first | exact HB.out | apply wA | apply wN | apply wD | refine wS ?_ b2.out | refine wS ?_ b3.out | refine wS ?_ b9.out) | exact HB.out)) hb)
              have n4_ := aM (hbox)
              have n5_ := aM ((by rw [hg]; exact (below_size (by repeat (first | (with_reducible first | exact HB.out | apply wA | apply wN | apply wD | refine wS ?_ b2.out | refine wS ?_ b3.out | refine wS ?_ b9.out) | exact HB.out))) : w.heap.size ≤ a4))
              have n6_ := aM ((by rw [hg]; exact (below_size (by repeat (first | (with_reducible first | exact HB.out | apply wA | apply wN | apply wD | refine wS ?_ b2.out | refine wS ?_ b3.out | refine wS ?_ b9.out) | exact HB.out))) : w.heap.size ≤ a4))
              have n7_ := aM ((by rw [hg]; exact Nat.ne_of_lt (bL (g := a0) (o := .cells #[.int .i64 a0_0, .int .i64 a0_1, .int .i64 a0_2, .int .i64 a0_3] 44 (0, 0)) (by (with_reducible repeat (first | refine bN ?_ _ | refine bD ?_ | refine bA ?_ _)); exact a2.out)) : a0 ≠ a4))
              have n8_ := aM ((by rw [hg]; exact Nat.ne_of_gt (bL (g := a0) (o := .cells #[.int .i64 a0_0, .int .i64 a0_1, .int .i64 a0_2, .int .i64 a0_3] 44 (0, 0)) (by (with_reducible repeat (first | refine bN ?_ _ | refine bD ?_ | refine bA ?_ _)); exact a2.out)) : a4 ≠ a0))
              have n9_ := aM ((by rw [hg]; exact Nat.ne_of_lt (bL (g := a1) (o := .cells #[.int .i64 a1_0, .int .i64 a1_1, .int .i64 a1_2, .int .i64 a1_3] 44 (0, 0)) (by (with_reducible repeat (first | refine bN ?_ _ | refine bD ?_ | refine bA ?_ _)); exact a3.out)) : a1 ≠ a4))
              have e7 := aM ((by rw [hg]; exact Nat.ne_of_gt (bL (g := a1) (o := .cells #[.int .i64 a1_0, .int .i64 a1_1, .int .i64 a1_2, .int .i64 a1_3] 44 (0, 0)) (by (with_reducible repeat (first | refine bN ?_ _ | refine bD ?_ | refine bA ?_ _)); exact a3.out)) : a4 ≠ a1))
              have e8 := aM ((by rw [hg]; exact Nat.ne_of_lt (bL (g := a5) (o := .cells #[.int .i64 0, .int .i64 0, .int .i64 0, .int .i64 0] 44 (0, 0)) (by (with_reducible repeat (first | refine bN ?_ _ | refine bD ?_ | refine bA ?_ _)); exact a7.out)) : a5 ≠ a4))
              have e9 := aM ((by rw [hg]; exact Nat.ne_of_gt (bL (g := a5) (o := .cells #[.int .i64 0, .int .i64 0, .int .i64 0, .int .i64 0] 44 (0, 0)) (by (with_reducible repeat (first | refine bN ?_ _ | refine bD ?_ | refine bA ?_ _)); exact a7.out)) : a4 ≠ a5))
              clear a2
              clear a3
              clear a7
              clear HB
              have a2 := n0_
              have a3 := n1_
              have a7 := n2_
              have HB := n3_
              have a6 := n4_
              have f3 := n5_
              have b8 := n6_
              have a8 := n7_
              have c1 := n8_
              have a9 := n9_
              have c2 := e7
              have c5 := e8
              have c6 := e9
              clear n0_ n1_ n2_ n3_ n4_ n5_ n6_ n7_ n8_ n9_ e7 e8 e9
              clear hb hbox hg
              refine hK.out _ _ ⟨(blk_cell a2.out 0).trans rfl, (blk_cell a2.out 1).trans rfl, (blk_cell a2.out 2).trans rfl, (blk_cell a2.out 3).trans rfl, (blk_cell a3.out 0).trans rfl, (blk_cell a3.out 1).trans rfl, (blk_cell a3.out 2).trans rfl, (blk_cell a3.out 3).trans rfl⟩ (fun hHeld => ?_)
              clear hK K
              refine norm_ (a' := ?_) ?_ ?_
              rotate_left
              ·show Act.put _ (some 5) _ = _
               simp only [Act.put, List.setIfInBounds_toArray, List.set_cons_zero, List.set_cons_succ, i64_w, i32_w]
               rfl
              exact norm_ (by first | (simp only [putAll, Act.put, List.setIfInBounds_toArray, List.set_cons_zero, List.set_cons_succ]; done) | (simp only [putAll, Act.put, List.setIfInBounds_toArray, List.set_cons_zero, List.set_cons_succ]; rfl)) (l6 (a4, a5) _ ⟨hHeld, (by (with_reducible repeat (first | refine bN ?_ _ | refine bD ?_ | refine bA ?_ _)); exact a2.out), (by (with_reducible repeat (first | refine bN ?_ _ | refine bD ?_ | refine bA ?_ _)); exact a3.out), (by (with_reducible repeat (first | refine bN ?_ _ | refine bD ?_ | refine bA ?_ _)); exact a6.out), (by (with_reducible repeat (first | refine bN ?_ _ | refine bD ?_ | refine bA ?_ _)); exact a7.out), f3.out, b8.out, a8.out, c1.out, a9.out, c2.out, c5.out, c6.out, f4.out, b9.out, b0.out, c3.out, b1.out, c4.out, (by repeat (first | (with_reducible first | exact HB.out | apply wA | apply wN | apply wD | refine wS ?_ b2.out | refine wS ?_ b3.out | refine wS ?_ b9.out | refine wS ?_ b8.out) | exact HB.out))⟩)
           ·skip
            rintro a4 d0 ⟨hS_, h0_, h1_, h2_, h3_, h4_, h5_, h6_, h7_, h8_, h9_⟩
            have n0_ : Aside0 (d0.heap[a0]? = some (.cells #[.int .i64 a0_0, .int .i64 a0_1, .int .i64 a0_2, .int .i64 a0_3] 44 (0, 0))) := ⟨h0_⟩
            have n1_ : Aside0 (d0.heap[a1]? = some (.cells #[.int .i64 a1_0, .int .i64 a1_1, .int .i64 a1_2, .int .i64 a1_3] 44 (0, 0))) := ⟨h1_⟩
            have n2_ : Aside0 (d0.heap[a4]? = some (.cells #[.int .i64 0, .int .i64 0, .int .i64 0, .int .i64 0] 44 (0, 0))) := ⟨h2_⟩
            have n3_ : Aside0 (w.heap.size ≤ a4) := ⟨h3_⟩
            have n4_ : Aside0 (w.heap.size ≤ a4) := ⟨h4_⟩
            have n5_ : Aside0 (a0 ≠ a4) := ⟨h5_⟩
            have n6_ : Aside0 (a4 ≠ a0) := ⟨h6_⟩
            have n7_ : Aside0 (a1 ≠ a4) := ⟨h7_⟩
            have n8_ : Aside0 (a4 ≠ a1) := ⟨h8_⟩
            have n9_ : Aside0 (Below w.heap.size w d0) := ⟨h9_⟩
            clear a2
            clear a3
            clear HB
            clear h0_ h1_ h2_ h3_ h4_ h5_ h6_ h7_ h8_ h9_
            have a2 := n0_
            have a3 := n1_
            have a6 := n2_
            have f3 := n3_
            have b8 := n4_
            have a8 := n5_
            have c1 := n6_
            have a9 := n7_
            have c2 := n8_
            have HB := n9_
            clear n0_ n1_ n2_ n3_ n4_ n5_ n6_ n7_ n8_ n9_
            have hHeld : d0.cell? ⟨a0, 0, none⟩ = some (.int .i64 a0_0) ∧ d0.cell? ⟨a0, 1, none⟩ = some (.int .i64 a0_1) ∧ d0.cell? ⟨a0, 2, none⟩ = some (.int .i64 a0_2) ∧ d0.cell? ⟨a0, 3, none⟩ = some (.int .i64 a0_3) ∧ d0.cell? ⟨a1, 0, none⟩ = some (.int .i64 a1_0) ∧ d0.cell? ⟨a1, 1, none⟩ = some (.int .i64 a1_1) ∧ d0.cell? ⟨a1, 2, none⟩ = some (.int .i64 a1_2) ∧ d0.cell? ⟨a1, 3, none⟩ = some (.int .i64 a1_3) := hS_
            refine norm_ (a' := ?_) ?_ ?_
            rotate_left
            ·simp only [putAll, Act.put, List.setIfInBounds_toArray, List.set_cons_zero, List.set_cons_succ]
             rfl
            refine two_ (i := 3) (j := 5) (Ni := some 16) (Nj := some 6) #[true, true, true, true, true, false, false, false] #[true, true, true, false, true, true, false, false] rfl rfl rfl rfl (two_of HT_.out (by kernel_rfl)) (by decide) (by decide) (fun K hK => ?_) (fun K hK => ?_)
            ·skip
             refine goes_ Tryd.func21 (by kernel_rfl) rfl #[.agg #[.int .i64 a1_0, .int .i64 a1_1, .int .i64 a1_2, .int .i64 a1_3]] (by rfl) rfl rfl (by (try simp only [List.map_toArray, List.map_cons, List.map_nil]); first | done | rfl | (simp only [List.length_drop, List.length_take]; rfl)) ?_
             with_reducible refine (laws_rgFull.calls k a1_0 a1_1 a1_2 a1_3 d4 d5 d6 d7 _ A4.out).mono ?_
             rintro e d2 ⟨rfl, hb⟩
             refine ⟨_, rfl, ?_⟩
             have n0_ := aM (bB (g := a0) (o := .cells #[.int .i64 a0_0, .int .i64 a0_1, .int .i64 a0_2, .int .i64 a0_3] 44 (0, 0)) (by (with_reducible repeat (first | refine bN ?_ _ | refine bD ?_ | refine bA ?_ _)); exact a2.out) hb)
             have n1_ := aM (bB (g := a1) (o := .cells #[.int .i64 a1_0, .int .i64 a1_1, .int .i64 a1_2, .int .i64 a1_3] 44 (0, 0)) (by (with_reducible repeat (first | refine bN ?_ _ | refine bD ?_ | refine bA ?_ _)); exact a3.out) hb)
             have n2_ := aM (bB (g := a4) (o := .cells #[.int .i64 0, .int .i64 0, .int .i64 0, .int .i64 0] 44 (0, 0)) (by (with_reducible repeat (first | refine bN ?_ _ | refine bD ?_ | refine bA ?_ _)); exact a6.out) hb)
             have n3_ := aM (wP (by repeat (first | (with_reducible first | exact HB.out | apply wA | apply wN | apply wD | refine wS ?_ b2.out | refine wS ?_ b3.out | refine wS ?_ b8.out) | exact HB.out)) hb)
             clear a2
             clear a3
             clear a6
             clear HB
             have a2 := n0_
             have a3 := n1_
             have a6 := n2_
             have HB := n3_
             clear n0_ n1_ n2_ n3_
             (try clear hb)
             (try clear hb2)
             (try clear hk)
             (try clear hi)
             refine hK.out _ _ ⟨(blk_cell a2.out 0).trans rfl, (blk_cell a2.out 1).trans rfl, (blk_cell a2.out 2).trans rfl, (blk_cell a2.out 3).trans rfl, (blk_cell a3.out 0).trans rfl, (blk_cell a3.out 1).trans rfl, (blk_cell a3.out 2).trans rfl, (blk_cell a3.out 3).trans rfl⟩ (fun hHeld => ?_)
             clear hK K
             refine norm_ (a' := ?_) ?_ ?_
             rotate_left
             ·show Act.put _ (some 16) _ = _
              simp only [Act.put, List.setIfInBounds_toArray, List.set_cons_zero, List.set_cons_succ, i64_w, i32_w]
              rfl
             exact norm_ (by first | (simp only [putAll, Act.put, List.setIfInBounds_toArray, List.set_cons_zero, List.set_cons_succ]; done) | (simp only [putAll, Act.put, List.setIfInBounds_toArray, List.set_cons_zero, List.set_cons_succ]; rfl)) (l8 (a4) _ ⟨hHeld, (by (with_reducible repeat (first | refine bN ?_ _ | refine bD ?_ | refine bA ?_ _)); exact a2.out), (by (with_reducible repeat (first | refine bN ?_ _ | refine bD ?_ | refine bA ?_ _)); exact a3.out), (by (with_reducible repeat (first | refine bN ?_ _ | refine bD ?_ | refine bA ?_ _)); exact a6.out), f3.out, b8.out, a8.out, c1.out, a9.out, c2.out, (by repeat (first | (with_reducible first | exact HB.out | apply wA | apply wN | apply wD | refine wS ?_ b2.out | refine wS ?_ b3.out | refine wS ?_ b8.out) | exact HB.out))⟩)
            ·skip
             refine box_step ?hg (N := 6) ?hd (cs := #[.int .i64 0, .int .i64 0, .int .i64 0, .int .i64 0]) (t := 44) ?hr ?_; (case hd => rfl); (case hg => rfl); (case hr => first | (go_simp; done) | (go_simp; rfl))
             intro a5 hg d2 hbox hb
             have n0_ := aM (bB (g := a0) (o := .cells #[.int .i64 a0_0, .int .i64 a0_1, .int .i64 a0_2, .int .i64 a0_3] 44 (0, 0)) (by (with_reducible repeat (first | refine bN ?_ _ | refine bD ?_ | refine bA ?_ _)); exact a2.out) hb)
             have n1_ := aM (bB (g := a1) (o := .cells #[.int .i64 a1_0, .int .i64 a1_1, .int .i64 a1_2, .int .i64 a1_3] 44 (0, 0)) (by (with_reducible repeat (first | refine bN ?_ _ | refine bD ?_ | refine bA ?_ _)); exact a3.out) hb)
             have n2_ := aM (bB (g := a4) (o := .cells #[.int .i64 0, .int .i64 0, .int .i64 0, .int .i64 0] 44 (0, 0)) (by (with_reducible repeat (first | refine bN ?_ _ | refine bD ?_ | refine bA ?_ _)); exact a6.out) hb)
             have n3_ := aM (wP (by repeat (first | (with_reducible first | exact HB.out | apply wA | apply wN | apply wD | refine wS ?_ b2.out | refine wS ?_ b3.out | refine wS ?_ b8.out) | exact HB.out)) hb)
             have n4_ := aM (hbox)
             have n5_ := aM ((by rw [hg]; exact (below_size (by repeat (first | (with_reducible first | exact HB.out | apply wA | apply wN | apply wD | refine wS ?_ b2.out | refine wS ?_ b3.out | refine wS ?_ b8.out) | exact HB.out))) : w.heap.size ≤ a5))
             have n6_ := aM ((by rw [hg]; exact (below_size (by repeat (first | (with_reducible first | exact HB.out | apply wA | apply wN | apply wD | refine wS ?_ b2.out | refine wS ?_ b3.out | refine wS ?_ b8.out) | exact HB.out))) : w.heap.size ≤ a5))
             have n7_ := aM ((by rw [hg]; exact Nat.ne_of_lt (bL (g := a0) (o := .cells #[.int .i64 a0_0, .int .i64 a0_1, .int .i64 a0_2, .int .i64 a0_3] 44 (0, 0)) (by (with_reducible repeat (first | refine bN ?_ _ | refine bD ?_ | refine bA ?_ _)); exact a2.out)) : a0 ≠ a5))
             have n8_ := aM ((by rw [hg]; exact Nat.ne_of_gt (bL (g := a0) (o := .cells #[.int .i64 a0_0, .int .i64 a0_1, .int .i64 a0_2, .int .i64 a0_3] 44 (0, 0)) (by (with_reducible repeat (first | refine bN ?_ _ | refine bD ?_ | refine bA ?_ _)); exact a2.out)) : a5 ≠ a0))
             have n9_ := aM ((by rw [hg]; exact Nat.ne_of_lt (bL (g := a1) (o := .cells #[.int .i64 a1_0, .int .i64 a1_1, .int .i64 a1_2, .int .i64 a1_3] 44 (0, 0)) (by (with_reducible repeat (first | refine bN ?_ _ | refine bD ?_ | refine bA ?_ _)); exact a3.out)) : a1 ≠ a5))
             have e7 := aM ((by rw [hg]; exact Nat.ne_of_gt (bL (g := a1) (o := .cells #[.int .i64 a1_0, .int .i64 a1_1, .int .i64 a1_2, .int .i64 a1_3] 44 (0, 0)) (by (with_reducible repeat (first | refine bN ?_ _ | refine bD ?_ | refine bA ?_ _)); exact a3.out)) : a5 ≠ a1))
             have e8 := aM ((by rw [hg]; exact Nat.ne_of_lt (bL (g := a4) (o := .cells #[.int .i64 0, .int .i64 0, .int .i64 0, .int .i64 0] 44 (0, 0)) (by (with_reducible repeat (first | refine bN ?_ _ | refine bD ?_ | refine bA ?_ _)); exact a6.out)) : a4 ≠ a5))
             have e9 := aM ((by rw [hg]; exact Nat.ne_of_gt (bL (g := a4) (o := .cells #[.int .i64 0, .int .i64 0, .int .i64 0, .int .i64 0] 44 (0, 0)) (by (with_reducible repeat (first | refine bN ?_ _ | refine bD ?_ | refine bA ?_ _)); exact a6.out)) : a5 ≠ a4))
             clear a2
             clear a3
             clear a6
             clear HB
             have a2 := n0_
             have a3 := n1_
             have a6 := n2_
             have HB := n3_
             have a7 := n4_
             have f4 := n5_
             have b9 := n6_
             have b0 := n7_
             have c3 := n8_
             have b1 := n9_
             have c4 := e7
             have c6 := e8
             have c5 := e9
             clear n0_ n1_ n2_ n3_ n4_ n5_ n6_ n7_ n8_ n9_ e7 e8 e9
             clear hb hbox hg
             refine hK.out _ _ ⟨(blk_cell a2.out 0).trans rfl, (blk_cell a2.out 1).trans rfl, (blk_cell a2.out 2).trans rfl, (blk_cell a2.out 3).trans rfl, (blk_cell a3.out 0).trans rfl, (blk_cell a3.out 1).trans rfl, (blk_cell a3.out 2).trans rfl, (blk_cell a3.out 3).trans rfl⟩ (fun hHeld => ?_)
             clear hK K
             refine norm_ (a' := ?_) ?_ ?_
             rotate_left
             ·show Act.put _ (some 6) _ = _
              simp only [Act.put, List.setIfInBounds_toArray, List.set_cons_zero, List.set_cons_succ, i64_w, i32_w]
              rfl
             exact norm_ (by first | (simp only [putAll, Act.put, List.setIfInBounds_toArray, List.set_cons_zero, List.set_cons_succ]; done) | (simp only [putAll, Act.put, List.setIfInBounds_toArray, List.set_cons_zero, List.set_cons_succ]; rfl)) (l6 (a4, a5) _ ⟨hHeld, (by (with_reducible repeat (first | refine bN ?_ _ | refine bD ?_ | refine bA ?_ _)); exact a2.out), (by (with_reducible repeat (first | refine bN ?_ _ | refine bD ?_ | refine bA ?_ _)); exact a3.out), (by (with_reducible repeat (first | refine bN ?_ _ | refine bD ?_ | refine bA ?_ _)); exact a6.out), (by (with_reducible repeat (first | refine bN ?_ _ | refine bD ?_ | refine bA ?_ _)); exact a7.out), f3.out, b8.out, a8.out, c1.out, a9.out, c2.out, c5.out, c6.out, f4.out, b9.out, b0.out, c3.out, b1.out, c4.out, (by repeat (first | (with_reducible first | exact HB.out | apply wA | apply wN | apply wD | refine wS ?_ b2.out | refine wS ?_ b3.out | refine wS ?_ b8.out | refine wS ?_ b9.out) | exact HB.out))⟩)
          ·skip
           rintro _ d0 ⟨hS_, h0_, h1_, h2_⟩
           have n0_ : Aside0 (d0.heap[a0]? = some (.cells #[.int .i64 a0_0, .int .i64 a0_1, .int .i64 a0_2, .int .i64 a0_3] 44 (0, 0))) := ⟨h0_⟩
           have n1_ : Aside0 (d0.heap[a1]? = some (.cells #[.int .i64 a1_0, .int .i64 a1_1, .int .i64 a1_2, .int .i64 a1_3] 44 (0, 0))) := ⟨h1_⟩
           have n2_ : Aside0 (Below w.heap.size w d0) := ⟨h2_⟩
           clear a2
           clear a3
           clear HB
           clear h0_ h1_ h2_
           have a2 := n0_
           have a3 := n1_
           have HB := n2_
           clear n0_ n1_ n2_
           have hHeld : d0.cell? ⟨a0, 0, none⟩ = some (.int .i64 a0_0) ∧ d0.cell? ⟨a0, 1, none⟩ = some (.int .i64 a0_1) ∧ d0.cell? ⟨a0, 2, none⟩ = some (.int .i64 a0_2) ∧ d0.cell? ⟨a0, 3, none⟩ = some (.int .i64 a0_3) ∧ d0.cell? ⟨a1, 0, none⟩ = some (.int .i64 a1_0) ∧ d0.cell? ⟨a1, 1, none⟩ = some (.int .i64 a1_1) ∧ d0.cell? ⟨a1, 2, none⟩ = some (.int .i64 a1_2) ∧ d0.cell? ⟨a1, 3, none⟩ = some (.int .i64 a1_3) := hS_
           refine norm_ (a' := ?_) ?_ ?_
           rotate_left
           ·simp only [putAll, Act.put, List.setIfInBounds_toArray, List.set_cons_zero, List.set_cons_succ]
            rfl
           refine two_ (i := 4) (j := 5) (Ni := some 5) (Nj := some 6) #[true, true, true, true, true, false, false, false] #[true, true, true, true, false, true, false, false] rfl rfl rfl rfl (two_of HT_.out (by kernel_rfl)) (by decide) (by decide) (fun K hK => ?_) (fun K hK => ?_)
           ·skip
            refine box_step ?hg (N := 5) ?hd (cs := #[.int .i64 0, .int .i64 0, .int .i64 0, .int .i64 0]) (t := 44) ?hr ?_; (case hd => rfl); (case hg => rfl); (case hr => first | (go_simp; done) | (go_simp; rfl))
            intro a4 hg d2 hbox hb
            have n0_ := aM (bB (g := a0) (o := .cells #[.int .i64 a0_0, .int .i64 a0_1, .int .i64 a0_2, .int .i64 a0_3] 44 (0, 0)) (by (with_reducible repeat (first | refine bN ?_ _ | refine bD ?_ | refine bA ?_ _)); exact a2.out) hb)
            have n1_ := aM (bB (g := a1) (o := .cells #[.int .i64 a1_0, .int .i64 a1_1, .int .i64 a1_2, .int .i64 a1_3] 44 (0, 0)) (by (with_reducible repeat (first | refine bN ?_ _ | refine bD ?_ | refine bA ?_ _)); exact a3.out) hb)
            have n2_ := aM (wP (by repeat (first | (with_reducible first | exact HB.out | apply wA | apply wN | apply wD | refine wS ?_ b2.out | refine wS ?_ b3.out) | exact HB.out)) hb)
            have n3_ := aM (hbox)
            have n4_ := aM ((by rw [hg]; exact (below_size (by repeat (first | (with_reducible first | exact HB.out | apply wA | apply wN | apply wD | refine wS ?_ b2.out | refine wS ?_ b3.out) | exact HB.out))) : w.heap.size ≤ a4))
            have n5_ := aM ((by rw [hg]; exact (below_size (by repeat (first | (with_reducible first | exact HB.out | apply wA | apply wN | apply wD | refine wS ?_ b2.out | refine wS ?_ b3.out) | exact HB.out))) : w.heap.size ≤ a4))
            have n6_ := aM ((by rw [hg]; exact Nat.ne_of_lt (bL (g := a0) (o := .cells #[.int .i64 a0_0, .int .i64 a0_1, .int .i64 a0_2, .int .i64 a0_3] 44 (0, 0)) (by (with_reducible repeat (first | refine bN ?_ _ | refine bD ?_ | refine bA ?_ _)); exact a2.out)) : a0 ≠ a4))
            have n7_ := aM ((by rw [hg]; exact Nat.ne_of_gt (bL (g := a0) (o := .cells #[.int .i64 a0_0, .int .i64 a0_1, .int .i64 a0_2, .int .i64 a0_3] 44 (0, 0)) (by (with_reducible repeat (first | refine bN ?_ _ | refine bD ?_ | refine bA ?_ _)); exact a2.out)) : a4 ≠ a0))
            have n8_ := aM ((by rw [hg]; exact Nat.ne_of_lt (bL (g := a1) (o := .cells #[.int .i64 a1_0, .int .i64 a1_1, .int .i64 a1_2, .int .i64 a1_3] 44 (0, 0)) (by (with_reducible repeat (first | refine bN ?_ _ | refine bD ?_ | refine bA ?_ _)); exact a3.out)) : a1 ≠ a4))
            have n9_ := aM ((by rw [hg]; exact Nat.ne_of_gt (bL (g := a1) (o := .cells #[.int .i64 a1_0, .int .i64 a1_1, .int .i64 a1_2, .int .i64 a1_3] 44 (0, 0)) (by (with_reducible repeat (first | refine bN ?_ _ | refine bD ?_ | refine bA ?_ _)); exact a3.out)) : a4 ≠ a1))
            clear a2
            clear a3
            clear HB
            have a2 := n0_
            have a3 := n1_
            have HB := n2_
            have a6 := n3_
            have f3 := n4_
            have b8 := n5_
            have a8 := n6_
            have c1 := n7_
            have a9 := n8_
            have c2 := n9_
            clear n0_ n1_ n2_ n3_ n4_ n5_ n6_ n7_ n8_ n9_
            clear hb hbox hg
            refine hK.out _ _ ⟨(blk_cell a2.out 0).trans rfl, (blk_cell a2.out 1).trans rfl, (blk_cell a2.out 2).trans rfl, (blk_cell a2.out 3).trans rfl, (blk_cell a3.out 0).trans rfl, (blk_cell a3.out 1).trans rfl, (blk_cell a3.out 2).trans rfl, (blk_cell a3.out 3).trans rfl⟩ (fun hHeld => ?_)
            clear hK K
            refine norm_ (a' := ?_) ?_ ?_
            rotate_left
            ·show Act.put _ (some 5) _ = _
             simp only [Act.put, List.setIfInBounds_toArray, List.set_cons_zero, List.set_cons_succ, i64_w, i32_w]
             rfl
            exact norm_ (by first | (simp only [putAll, Act.put, List.setIfInBounds_toArray, List.set_cons_zero, List.set_cons_succ]; done) | (simp only [putAll, Act.put, List.setIfInBounds_toArray, List.set_cons_zero, List.set_cons_succ]; rfl)) (l8 (a4) _ ⟨hHeld, (by (with_reducible repeat (first | refine bN ?_ _ | refine bD ?_ | refine bA ?_ _)); exact a2.out), (by (with_reducible repeat (first | refine bN ?_ _ | refine bD ?_ | refine bA ?_ _)); exact a3.out), (by (with_reducible repeat (first | refine bN ?_ _ | refine bD ?_ | refine bA ?_ _)); exact a6.out), f3.out, b8.out, a8.out, c1.out, a9.out, c2.out, (by repeat (first | (with_reducible first | exact HB.out | apply wA | apply wN | apply wD | refine wS ?_ b2.out | refine wS ?_ b3.out | refine wS ?_ b8.out) | exact HB.out))⟩)
           ·skip
            refine box_step ?hg (N := 6) ?hd (cs := #[.int .i64 0, .int .i64 0, .int .i64 0, .int .i64 0]) (t := 44) ?hr ?_; (case hd => rfl); (case hg => rfl); (case hr => first | (go_simp; done) | (go_simp; rfl))
            intro a5 hg d2 hbox hb
            have n0_ := aM (bB (g := a0) (o := .cells #[.int .i64 a0_0, .int .i64 a0_1, .int .i64 a0_2, .int .i64 a0_3] 44 (0, 0)) (by (with_reducible repeat (first | refine bN ?_ _ | refine bD ?_ | refine bA ?_ _)); exact a2.out) hb)
            have n1_ := aM (bB (g := a1) (o := .cells #[.int .i64 a1_0, .int .i64 a1_1, .int .i64 a1_2, .int .i64 a1_3] 44 (0, 0)) (by (with_reducible repeat (first | refine bN ?_ _ | refine bD ?_ | refine bA ?_ _)); exact a3.out) hb)
            have n2_ := aM (wP (by repeat (first | (with_reducible first | exact HB.out | apply wA | apply wN | apply wD | refine wS ?_ b2.out | refine wS ?_ b3.out) | exact HB.out)) hb)
            have n3_ := aM (hbox)
            have n4_ := aM ((by rw [hg]; exact (below_size (by repeat (first | (with_reducible first | exact HB.out | apply wA | apply wN | apply wD | refine wS ?_ b2.out | refine wS ?_ b3.out) | exact HB.out))) : w.heap.size ≤ a5))
            have n5_ := aM ((by rw [hg]; exact (below_size (by repeat (first | (with_reducible first | exact HB.out | apply wA | apply wN | apply wD | refine wS ?_ b2.out | refine wS ?_ b3.out) | exact HB.out))) : w.heap.size ≤ a5))
            have n6_ := aM ((by rw [hg]; exact Nat.ne_of_lt (bL (g := a0) (o := .cells #[.int .i64 a0_0, .int .i64 a0_1, .int .i64 a0_2, .int .i64 a0_3] 44 (0, 0)) (by (with_reducible repeat (first | refine bN ?_ _ | refine bD ?_ | refine bA ?_ _)); exact a2.out)) : a0 ≠ a5))
            have n7_ := aM ((by rw [hg]; exact Nat.ne_of_gt (bL (g := a0) (o := .cells #[.int .i64 a0_0, .int .i64 a0_1, .int .i64 a0_2, .int .i64 a0_3] 44 (0, 0)) (by (with_reducible repeat (first | refine bN ?_ _ | refine bD ?_ | refine bA ?_ _)); exact a2.out)) : a5 ≠ a0))
            have n8_ := aM ((by rw [hg]; exact Nat.ne_of_lt (bL (g := a1) (o := .cells #[.int .i64 a1_0, .int .i64 a1_1, .int .i64 a1_2, .int .i64 a1_3] 44 (0, 0)) (by (with_reducible repeat (first | refine bN ?_ _ | refine bD ?_ | refine bA ?_ _)); exact a3.out)) : a1 ≠ a5))
            have n9_ := aM ((by rw [hg]; exact Nat.ne_of_gt (bL (g := a1) (o := .cells #[.int .i64 a1_0, .int .i64 a1_1, .int .i64 a1_2, .int .i64 a1_3] 44 (0, 0)) (by (with_reducible repeat (first | refine bN ?_ _ | refine bD ?_ | refine bA ?_ _)); exact a3.out)) : a5 ≠ a1))
            clear a2
            clear a3
            clear HB
            have a2 := n0_
            have a3 := n1_
            have HB := n2_
            have a7 := n3_
            have f4 := n4_
            have b9 := n5_
            have b0 := n6_
            have c3 := n7_
            have b1 := n8_
            have c4 := n9_
            clear n0_ n1_ n2_ n3_ n4_ n5_ n6_ n7_ n8_ n9_
            clear hb hbox hg
            refine hK.out _ _ ⟨(blk_cell a2.out 0).trans rfl, (blk_cell a2.out 1).trans rfl, (blk_cell a2.out 2).trans rfl, (blk_cell a2.out 3).trans rfl, (blk_cell a3.out 0).trans rfl, (blk_cell a3.out 1).trans rfl, (blk_cell a3.out 2).trans rfl, (blk_cell a3.out 3).trans rfl⟩ (fun hHeld => ?_)
            clear hK K
            refine norm_ (a' := ?_) ?_ ?_
            rotate_left
            ·show Act.put _ (some 6) _ = _
             simp only [Act.put, List.setIfInBounds_toArray, List.set_cons_zero, List.set_cons_succ, i64_w, i32_w]
             rfl
            exact norm_ (by first | (simp only [putAll, Act.put, List.setIfInBounds_toArray, List.set_cons_zero, List.set_cons_succ]; done) | (simp only [putAll, Act.put, List.setIfInBounds_toArray, List.set_cons_zero, List.set_cons_succ]; rfl)) (l9 (a5) _ ⟨hHeld, (by (with_reducible repeat (first | refine bN ?_ _ | refine bD ?_ | refine bA ?_ _)); exact a2.out), (by (with_reducible repeat (first | refine bN ?_ _ | refine bD ?_ | refine bA ?_ _)); exact a3.out), (by (with_reducible repeat (first | refine bN ?_ _ | refine bD ?_ | refine bA ?_ _)); exact a7.out), f4.out, b9.out, b0.out, c3.out, b1.out, c4.out, (by repeat (first | (with_reducible first | exact HB.out | apply wA | apply wN | apply wD | refine wS ?_ b2.out | refine wS ?_ b3.out | refine wS ?_ b9.out) | exact HB.out))⟩)
         ·skip
          rintro ⟨a4, a5⟩ d2 ⟨hS_, h0_, h1_, h2_, h3_, h4_, h5_, h6_, h7_, h8_, h9_, j6, j7, j8, j9, l0, l1, l2, l3, l4⟩
          have n0_ : Aside0 (d2.heap[a0]? = some (.cells #[.int .i64 a0_0, .int .i64 a0_1, .int .i64 a0_2, .int .i64 a0_3] 44 (0, 0))) := ⟨h0_⟩
          have n1_ : Aside0 (d2.heap[a1]? = some (.cells #[.int .i64 a1_0, .int .i64 a1_1, .int .i64 a1_2, .int .i64 a1_3] 44 (0, 0))) := ⟨h1_⟩
          have n2_ : Aside0 (d2.heap[a4]? = some (.cells #[.int .i64 0, .int .i64 0, .int .i64 0, .int .i64 0] 44 (0, 0))) := ⟨h2_⟩
          have n3_ : Aside0 (d2.heap[a5]? = some (.cells #[.int .i64 0, .int .i64 0, .int .i64 0, .int .i64 0] 44 (0, 0))) := ⟨h3_⟩
          have n4_ : Aside0 (w.heap.size ≤ a4) := ⟨h4_⟩
          have n5_ : Aside0 (w.heap.size ≤ a4) := ⟨h5_⟩
          have n6_ : Aside0 (a0 ≠ a4) := ⟨h6_⟩
          have n7_ : Aside0 (a4 ≠ a0) := ⟨h7_⟩
          have n8_ : Aside0 (a1 ≠ a4) := ⟨h8_⟩
          have n9_ : Aside0 (a4 ≠ a1) := ⟨h9_⟩
          have e7 : Aside0 (a5 ≠ a4) := ⟨j6⟩
          have e8 : Aside0 (a4 ≠ a5) := ⟨j7⟩
          have e9 : Aside0 (w.heap.size ≤ a5) := ⟨j8⟩
          have g8 : Aside0 (w.heap.size ≤ a5) := ⟨j9⟩
          have g9 : Aside0 (a0 ≠ a5) := ⟨l0⟩
          have h0 : Aside0 (a5 ≠ a0) := ⟨l1⟩
          have j1 : Aside0 (a1 ≠ a5) := ⟨l2⟩
          have j2 : Aside0 (a5 ≠ a1) := ⟨l3⟩
          have j3 : Aside0 (Below w.heap.size w d2) := ⟨l4⟩
          clear a2
          clear a3
          clear HB
          clear h0_ h1_ h2_ h3_ h4_ h5_ h6_ h7_ h8_ h9_ j6 j7 j8 j9 l0 l1 l2 l3 l4
          have a2 := n0_
          have a3 := n1_
          have a6 := n2_
          have a7 := n3_
          have f3 := n4_
          have b8 := n5_
          have a8 := n6_
          have c1 := n7_
          have a9 := n8_
          have c2 := n9_
          have c5 := e7
          have c6 := e8
          have f4 := e9
          have b9 := g8
          have b0 := g9
          have c3 := h0
          have b1 := j1
          have c4 := j2
          have HB := j3
          clear n0_ n1_ n2_ n3_ n4_ n5_ n6_ n7_ n8_ n9_ e7 e8 e9 g8 g9 h0 j1 j2 j3
          have hHeld : d2.cell? ⟨a0, 0, none⟩ = some (.int .i64 a0_0) ∧ d2.cell? ⟨a0, 1, none⟩ = some (.int .i64 a0_1) ∧ d2.cell? ⟨a0, 2, none⟩ = some (.int .i64 a0_2) ∧ d2.cell? ⟨a0, 3, none⟩ = some (.int .i64 a0_3) ∧ d2.cell? ⟨a1, 0, none⟩ = some (.int .i64 a1_0) ∧ d2.cell? ⟨a1, 1, none⟩ = some (.int .i64 a1_1) ∧ d2.cell? ⟨a1, 2, none⟩ = some (.int .i64 a1_2) ∧ d2.cell? ⟨a1, 3, none⟩ = some (.int .i64 a1_3) := hS_
          refine norm_ (a' := ?_) ?_ ?_
          rotate_left
          ·simp only [putAll, Act.put, List.setIfInBounds_toArray, List.set_cons_zero, List.set_cons_succ]
           rfl
          refine one_ (i := 3) (N := some 16) #[true, true, true, true, true, true, false, false] rfl rfl (one_of HT_.out (by kernel_rfl)) (by decide) (fun K hK => ?_)
          refine goes_ Tryd.func21 (by kernel_rfl) rfl #[.agg #[.int .i64 a1_0, .int .i64 a1_1, .int .i64 a1_2, .int .i64 a1_3]] (by rfl) rfl rfl (by (try simp only [List.map_toArray, List.map_cons, List.map_nil]); first | done | rfl | (simp only [List.length_drop, List.length_take]; rfl)) ?_
          with_reducible refine (laws_rgFull.calls k a1_0 a1_1 a1_2 a1_3 d4 d5 d6 d7 _ A4.out).mono ?_
          rintro e f0 ⟨rfl, hb⟩
          refine ⟨_, rfl, ?_⟩
          have n0_ := aM (bB (g := a0) (o := .cells #[.int .i64 a0_0, .int .i64 a0_1, .int .i64 a0_2, .int .i64 a0_3] 44 (0, 0)) (by (with_reducible repeat (first | refine bN ?_ _ | refine bD ?_ | refine bA ?_ _)); exact a2.out) hb)
          have n1_ := aM (bB (g := a1) (o := .cells #[.int .i64 a1_0, .int .i64 a1_1, .int .i64 a1_2, .int .i64 a1_3] 44 (0, 0)) (by (with_reducible repeat (first | refine bN ?_ _ | refine bD ?_ | refine bA ?_ _)); exact a3.out) hb)
          have n2_ := aM (bB (g := a4) (o := .cells #[.int .i64 0, .int .i64 0, .int .i64 0, .int .i64 0] 44 (0, 0)) (by (with_reducible repeat (first | refine bN ?_ _ | refine bD ?_ | refine bA ?_ _)); exact a6.out) hb)
          have n3_ := aM (bB (g := a5) (o := .cells #[.int .i64 0, .int .i64 0, .int .i64 0, .int .i64 0] 44 (0, 0)) (by (with_reducible repeat (first | refine bN ?_ _ | refine bD ?_ | refine bA ?_ _)); exact a7.out) hb)
          have n4_ := aM (wP (by repeat (first | (with_reducible first | exact HB.out | apply wA | apply wN | apply wD | refine wS ?_ b2.out | refine wS ?_ b3.out | refine wS ?_ b8.out | refine wS ?_ b9.out) | exact HB.out)) hb)
          clear a2
          clear a3
          clear a6
          clear a7
          clear HB
          have a2 := n0_
          have a3 := n1_
          have a6 := n2_
          have a7 := n3_
          have HB := n4_
          clear n0_ n1_ n2_ n3_ n4_
          (try clear hb)
          (try clear hb2)
          (try clear hk)
          (try clear hi)
          refine hK.out _ _ ⟨(blk_cell a2.out 0).trans rfl, (blk_cell a2.out 1).trans rfl, (blk_cell a2.out 2).trans rfl, (blk_cell a2.out 3).trans rfl, (blk_cell a3.out 0).trans rfl, (blk_cell a3.out 1).trans rfl, (blk_cell a3.out 2).trans rfl, (blk_cell a3.out 3).trans rfl⟩ (fun hHeld => ?_)
          clear hK K
          refine norm_ (a' := ?_) ?_ ?_
          rotate_left
          ·show Act.put _ (some 16) _ = _
           simp only [Act.put, List.setIfInBounds_toArray, List.set_cons_zero, List.set_cons_succ, i64_w, i32_w]
           rfl
          exact norm_ (by first | (simp only [putAll, Act.put, List.setIfInBounds_toArray, List.set_cons_zero, List.set_cons_succ]; done) | (simp only [putAll, Act.put, List.setIfInBounds_toArray, List.set_cons_zero, List.set_cons_succ]; rfl)) (j5 (a4, a5) _ ⟨hHeld, (by (with_reducible repeat (first | refine bN ?_ _ | refine bD ?_ | refine bA ?_ _)); exact a2.out), (by (with_reducible repeat (first | refine bN ?_ _ | refine bD ?_ | refine bA ?_ _)); exact a3.out), (by (with_reducible repeat (first | refine bN ?_ _ | refine bD ?_ | refine bA ?_ _)); exact a6.out), (by (with_reducible repeat (first | refine bN ?_ _ | refine bD ?_ | refine bA ?_ _)); exact a7.out), f3.out, b8.out, a8.out, c1.out, a9.out, c2.out, c5.out, c6.out, f4.out, b9.out, b0.out, c3.out, b1.out, c4.out, (by repeat (first | (with_reducible first | exact HB.out | apply wA | apply wN | apply wD | refine wS ?_ b2.out | refine wS ?_ b3.out | refine wS ?_ b8.out | refine wS ?_ b9.out) | exact HB.out))⟩)
        ·skip
         rintro a5 d2 ⟨hS_, h0_, h1_, h2_, h3_, h4_, h5_, h6_, h7_, h8_, h9_⟩
         have n0_ : Aside0 (d2.heap[a0]? = some (.cells #[.int .i64 a0_0, .int .i64 a0_1, .int .i64 a0_2, .int .i64 a0_3] 44 (0, 0))) := ⟨h0_⟩
         have n1_ : Aside0 (d2.heap[a1]? = some (.cells #[.int .i64 a1_0, .int .i64 a1_1, .int .i64 a1_2, .int .i64 a1_3] 44 (0, 0))) := ⟨h1_⟩
         have n2_ : Aside0 (d2.heap[a5]? = some (.cells #[.int .i64 0, .int .i64 0, .int .i64 0, .int .i64 0] 44 (0, 0))) := ⟨h2_⟩
         have n3_ : Aside0 (w.heap.size ≤ a5) := ⟨h3_⟩
         have n4_ : Aside0 (w.heap.size ≤ a5) := ⟨h4_⟩
         have n5_ : Aside0 (a0 ≠ a5) := ⟨h5_⟩
         have n6_ : Aside0 (a5 ≠ a0) := ⟨h6_⟩
         have n7_ : Aside0 (a1 ≠ a5) := ⟨h7_⟩
         have n8_ : Aside0 (a5 ≠ a1) := ⟨h8_⟩
         have n9_ : Aside0 (Below w.heap.size w d2) := ⟨h9_⟩
         clear a2
         clear a3
         clear HB
         clear h0_ h1_ h2_ h3_ h4_ h5_ h6_ h7_ h8_ h9_
         have a2 := n0_
         have a3 := n1_
         have a7 := n2_
         have f4 := n3_
         have b9 := n4_
         have b0 := n5_
         have c3 := n6_
         have b1 := n7_
         have c4 := n8_
         have HB := n9_
         clear n0_ n1_ n2_ n3_ n4_ n5_ n6_ n7_ n8_ n9_
         have hHeld : d2.cell? ⟨a0, 0, none⟩ = some (.int .i64 a0_0) ∧ d2.cell? ⟨a0, 1, none⟩ = some (.int .i64 a0_1) ∧ d2.cell? ⟨a0, 2, none⟩ = some (.int .i64 a0_2) ∧ d2.cell? ⟨a0, 3, none⟩ = some (.int .i64 a0_3) ∧ d2.cell? ⟨a1, 0, none⟩ = some (.int .i64 a1_0) ∧ d2.cell? ⟨a1, 1, none⟩ = some (.int .i64 a1_1) ∧ d2.cell? ⟨a1, 2, none⟩ = some (.int .i64 a1_2) ∧ d2.cell? ⟨a1, 3, none⟩ = some (.int .i64 a1_3) := hS_
         refine norm_ (a' := ?_) ?_ ?_
         rotate_left
         ·simp only [putAll, Act.put, List.setIfInBounds_toArray, List.set_cons_zero, List.set_cons_succ]
          rfl
         refine one_ (i := 4) (N := some 5) #[true, true, true, true, true, true, false, false] rfl rfl (one_of HT_.out (by kernel_rfl)) (by decide) (fun K hK => ?_)
         refine box_step ?hg (N := 5) ?hd (cs := #[.int .i64 0, .int .i64 0, .int .i64 0, .int .i64 0]) (t := 44) ?hr ?_; (case hd => rfl); (case hg => rfl); (case hr => first | (go_simp; done) | (go_simp; rfl))
         intro a4 hg f0 hbox hb
         have n0_ := aM (bB (g := a0) (o := .cells #[.int .i64 a0_0, .int .i64 a0_1, .int .i64 a0_2, .int .i64 a0_3] 44 (0, 0)) (by (with_reducible repeat (first | refine bN ?_ _ | refine bD ?_ | refine bA ?_ _)); exact a2.out) hb)
         have n1_ := aM (bB (g := a1) (o := .cells #[.int .i64 a1_0, .int .i64 a1_1, .int .i64 a1_2, .int .i64 a1_3] 44 (0, 0)) (by (with_reducible repeat (first | refine bN ?_ _ | refine bD ?_ | refine bA ?_ _)); exact a3.out) hb)
         have n2_ := aM (bB (g := a5) (o := .cells #[.int .i64 0, .int .i64 0, .int .i64 0, .int .i64 0] 44 (0, 0)) (by (with_reducible repeat (first | refine bN ?_ _ | refine bD ?_ | refine bA ?_ _)); exact a7.out) hb)
         have n3_ := aM (wP (by repeat (first | (with_reducible first | exact HB.out | apply wA | apply wN | apply wD | refine wS ?_ b2.out | refine wS ?_ b3.out | refine wS ?_ b9.out) | exact HB.out)) hb)
         have n4_ := aM (hbox)
         have n5_ := aM ((by rw [hg]; exact (below_size (by repeat (first | (with_reducible first | exact HB.out | apply wA | apply wN | apply wD | refine wS ?_ b2.out | refine wS ?_ b3.out | refine wS ?_ b9.out) | exact HB.out))) : w.heap.size ≤ a4))
         have n6_ := aM ((by rw [hg]; exact (below_size (by repeat (first | (with_reducible first | exact HB.out | apply wA | apply wN | apply wD | refine wS ?_ b2.out | refine wS ?_ b3.out | refine wS ?_ b9.out) | exact HB.out))) : w.heap.size ≤ a4))
         have n7_ := aM ((by rw [hg]; exact Nat.ne_of_lt (bL (g := a0) (o := .cells #[.int .i64 a0_0, .int .i64 a0_1, .int .i64 a0_2, .int .i64 a0_3] 44 (0, 0)) (by (with_reducible repeat (first | refine bN ?_ _ | refine bD ?_ | refine bA ?_ _)); exact a2.out)) : a0 ≠ a4))
         have n8_ := aM ((by rw [hg]; exact Nat.ne_of_gt (bL (g := a0) (o := .cells #[.int .i64 a0_0, .int .i64 a0_1, .int .i64 a0_2, .int .i64 a0_3] 44 (0, 0)) (by (with_reducible repeat (first | refine bN ?_ _ | refine bD ?_ | refine bA ?_ _)); exact a2.out)) : a4 ≠ a0))
         have n9_ := aM ((by rw [hg]; exact Nat.ne_of_lt (bL (g := a1) (o := .cells #[.int .i64 a1_0, .int .i64 a1_1, .int .i64 a1_2, .int .i64 a1_3] 44 (0, 0)) (by (with_reducible repeat (first | refine bN ?_ _ | refine bD ?_ | refine bA ?_ _)); exact a3.out)) : a1 ≠ a4))
         have e7 := aM ((by rw [hg]; exact Nat.ne_of_gt (bL (g := a1) (o := .cells #[.int .i64 a1_0, .int .i64 a1_1, .int .i64 a1_2, .int .i64 a1_3] 44 (0, 0)) (by (with_reducible repeat (first | refine bN ?_ _ | refine bD ?_ | refine bA ?_ _)); exact a3.out)) : a4 ≠ a1))
         have e8 := aM ((by rw [hg]; exact Nat.ne_of_lt (bL (g := a5) (o := .cells #[.int .i64 0, .int .i64 0, .int .i64 0, .int .i64 0] 44 (0, 0)) (by (with_reducible repeat (first | refine bN ?_ _ | refine bD ?_ | refine bA ?_ _)); exact a7.out)) : a5 ≠ a4))
         have e9 := aM ((by rw [hg]; exact Nat.ne_of_gt (bL (g := a5) (o := .cells #[.int .i64 0, .int .i64 0, .int .i64 0, .int .i64 0] 44 (0, 0)) (by (with_reducible repeat (first | refine bN ?_ _ | refine bD ?_ | refine bA ?_ _)); exact a7.out)) : a4 ≠ a5))
         clear a2
         clear a3
         clear a7
         clear HB
         have a2 := n0_
         have a3 := n1_
         have a7 := n2_
         have HB := n3_
         have a6 := n4_
         have f3 := n5_
         have b8 := n6_
         have a8 := n7_
         have c1 := n8_
         have a9 := n9_
         have c2 := e7
         have c5 := e8
         have c6 := e9
         clear n0_ n1_ n2_ n3_ n4_ n5_ n6_ n7_ n8_ n9_ e7 e8 e9
         clear hb hbox hg
         refine hK.out _ _ ⟨(blk_cell a2.out 0).trans rfl, (blk_cell a2.out 1).trans rfl, (blk_cell a2.out 2).trans rfl, (blk_cell a2.out 3).trans rfl, (blk_cell a3.out 0).trans rfl, (blk_cell a3.out 1).trans rfl, (blk_cell a3.out 2).trans rfl, (blk_cell a3.out 3).trans rfl⟩ (fun hHeld => ?_)
         clear hK K
         refine norm_ (a' := ?_) ?_ ?_
         rotate_left
         ·show Act.put _ (some 5) _ = _
          simp only [Act.put, List.setIfInBounds_toArray, List.set_cons_zero, List.set_cons_succ, i64_w, i32_w]
          rfl
         exact norm_ (by first | (simp only [putAll, Act.put, List.setIfInBounds_toArray, List.set_cons_zero, List.set_cons_succ]; done) | (simp only [putAll, Act.put, List.setIfInBounds_toArray, List.set_cons_zero, List.set_cons_succ]; rfl)) (j5 (a4, a5) _ ⟨hHeld, (by (with_reducible repeat (first | refine bN ?_ _ | refine bD ?_ | refine bA ?_ _)); exact a2.out), (by (with_reducible repeat (first | refine bN ?_ _ | refine bD ?_ | refine bA ?_ _)); exact a3.out), (by (with_reducible repeat (first | refine bN ?_ _ | refine bD ?_ | refine bA ?_ _)); exact a6.out), (by (with_reducible repeat (first | refine bN ?_ _ | refine bD ?_ | refine bA ?_ _)); exact a7.out), f3.out, b8.out, a8.out, c1.out, a9.out, c2.out, c5.out, c6.out, f4.out, b9.out, b0.out, c3.out, b1.out, c4.out, (by repeat (first | (with_reducible first | exact HB.out | apply wA | apply wN | apply wD | refine wS ?_ b2.out | refine wS ?_ b3.out | refine wS ?_ b9.out | refine wS ?_ b8.out) | exact HB.out))⟩)
       ·skip
        rintro a4 d2 ⟨hS_, h0_, h1_, h2_, h3_, h4_, h5_, h6_, h7_, h8_, h9_⟩
        have n0_ : Aside0 (d2.heap[a0]? = some (.cells #[.int .i64 a0_0, .int .i64 a0_1, .int .i64 a0_2, .int .i64 a0_3] 44 (0, 0))) := ⟨h0_⟩
        have n1_ : Aside0 (d2.heap[a1]? = some (.cells #[.int .i64 a1_0, .int .i64 a1_1, .int .i64 a1_2, .int .i64 a1_3] 44 (0, 0))) := ⟨h1_⟩
        have n2_ : Aside0 (d2.heap[a4]? = some (.cells #[.int .i64 0, .int .i64 0, .int .i64 0, .int .i64 0] 44 (0, 0))) := ⟨h2_⟩
        have n3_ : Aside0 (w.heap.size ≤ a4) := ⟨h3_⟩
        have n4_ : Aside0 (w.heap.size ≤ a4) := ⟨h4_⟩
        have n5_ : Aside0 (a0 ≠ a4) := ⟨h5_⟩
        have n6_ : Aside0 (a4 ≠ a0) := ⟨h6_⟩
        have n7_ : Aside0 (a1 ≠ a4) := ⟨h7_⟩
        have n8_ : Aside0 (a4 ≠ a1) := ⟨h8_⟩
        have n9_ : Aside0 (Below w.heap.size w d2) := ⟨h9_⟩
        clear a2
        clear a3
        clear HB
        clear h0_ h1_ h2_ h3_ h4_ h5_ h6_ h7_ h8_ h9_
        have a2 := n0_
        have a3 := n1_
        have a6 := n2_
        have f3 := n3_
        have b8 := n4_
        have a8 := n5_
        have c1 := n6_
        have a9 := n7_
        have c2 := n8_
        have HB := n9_
        clear n0_ n1_ n2_ n3_ n4_ n5_ n6_ n7_ n8_ n9_
        have hHeld : d2.cell? ⟨a0, 0, none⟩ = some (.int .i64 a0_0) ∧ d2.cell? ⟨a0, 1, none⟩ = some (.int .i64 a0_1) ∧ d2.cell? ⟨a0, 2, none⟩ = some (.int .i64 a0_2) ∧ d2.cell? ⟨a0, 3, none⟩ = some (.int .i64 a0_3) ∧ d2.cell? ⟨a1, 0, none⟩ = some (.int .i64 a1_0) ∧ d2.cell? ⟨a1, 1, none⟩ = some (.int .i64 a1_1) ∧ d2.cell? ⟨a1, 2, none⟩ = some (.int .i64 a1_2) ∧ d2.cell? ⟨a1, 3, none⟩ = some (.int .i64 a1_3) := hS_
        refine norm_ (a' := ?_) ?_ ?_
        rotate_left
        ·simp only [putAll, Act.put, List.setIfInBounds_toArray, List.set_cons_zero, List.set_cons_succ]
         rfl
        refine one_ (i := 5) (N := some 6) #[true, true, true, true, true, true, false, false] rfl rfl (one_of HT_.out (by kernel_rfl)) (by decide) (fun K hK => ?_)
        refine box_step ?hg (N := 6) ?hd (cs := #[.int .i64 0, .int .i64 0, .int .i64 0, .int .i64 0]) (t := 44) ?hr ?_; (case hd => rfl); (case hg => rfl); (case hr => first | (go_simp; done) | (go_simp; rfl))
        intro a5 hg f0 hbox hb
        have n0_ := aM (bB (g := a0) (o := .cells #[.int .i64 a0_0, .int .i64 a0_1, .int .i64 a0_2, .int .i64 a0_3] 44 (0, 0)) (by (with_reducible repeat (first | refine bN ?_ _ | refine bD ?_ | refine bA ?_ _)); exact a2.out) hb)
        have n1_ := aM (bB (g := a1) (o := .cells #[.int .i64 a1_0, .int .i64 a1_1, .int .i64 a1_2, .int .i64 a1_3] 44 (0, 0)) (by (with_reducible repeat (first | refine bN ?_ _ | refine bD ?_ | refine bA ?_ _)); exact a3.out) hb)
        have n2_ := aM (bB (g := a4) (o := .cells #[.int .i64 0, .int .i64 0, .int .i64 0, .int .i64 0] 44 (0, 0)) (by (with_reducible repeat (first | refine bN ?_ _ | refine bD ?_ | refine bA ?_ _)); exact a6.out) hb)
        have n3_ := aM (wP (by repeat (first | (with_reducible first | exact HB.out | apply wA | apply wN | apply wD | refine wS ?_ b2.out | refine wS ?_ b3.out | refine wS ?_ b8.out) | exact HB.out)) hb)
        have n4_ := aM (hbox)
        have n5_ := aM ((by rw [hg]; exact (below_size (by repeat (first | (with_reducible first | exact HB.out | apply wA | apply wN | apply wD | refine wS ?_ b2.out | refine wS ?_ b3.out | refine wS ?_ b8.out) | exact HB.out))) : w.heap.size ≤ a5))
        have n6_ := aM ((by rw [hg]; exact (below_size (by repeat (first | (with_reducible first | exact HB.out | apply wA | apply wN | apply wD | refine wS ?_ b2.out | refine wS ?_ b3.out | refine wS ?_ b8.out) | exact HB.out))) : w.heap.size ≤ a5))
        have n7_ := aM ((by rw [hg]; exact Nat.ne_of_lt (bL (g := a0) (o := .cells #[.int .i64 a0_0, .int .i64 a0_1, .int .i64 a0_2, .int .i64 a0_3] 44 (0, 0)) (by (with_reducible repeat (first | refine bN ?_ _ | refine bD ?_ | refine bA ?_ _)); exact a2.out)) : a0 ≠ a5))
        have n8_ := aM ((by rw [hg]; exact Nat.ne_of_gt (bL (g := a0) (o := .cells #[.int .i64 a0_0, .int .i64 a0_1, .int .i64 a0_2, .int .i64 a0_3] 44 (0, 0)) (by (with_reducible repeat (first | refine bN ?_ _ | refine bD ?_ | refine bA ?_ _)); exact a2.out)) : a5 ≠ a0))
        have n9_ := aM ((by rw [hg]; exact Nat.ne_of_lt (bL (g := a1) (o := .cells #[.int .i64 a1_0, .int .i64 a1_1, .int .i64 a1_2, .int .i64 a1_3] 44 (0, 0)) (by (with_reducible repeat (first | refine bN ?_ _ | refine bD ?_ | refine bA ?_ _)); exact a3.out)) : a1 ≠ a5))
        have e7 := aM ((by rw [hg]; exact Nat.ne_of_gt (bL (g := a1) (o := .cells #[.int .i64 a1_0, .int .i64 a1_1, .int .i64 a1_2, .int .i64 a1_3] 44 (0, 0)) (by (with_reducible repeat (first | refine bN ?_ _ | refine bD ?_ | refine bA ?_ _)); exact a3.out)) : a5 ≠ a1))
        have e8 := aM ((by rw [hg]; exact Nat.ne_of_lt (bL (g := a4) (o := .cells #[.int .i64 0, .int .i64 0, .int .i64 0, .int .i64 0] 44 (0, 0)) (by (with_reducible repeat (first | refine bN ?_ _ | refine bD ?_ | refine bA ?_ _)); exact a6.out)) : a4 ≠ a5))
        have e9 := aM ((by rw [hg]; exact Nat.ne_of_gt (bL (g := a4) (o := .cells #[.int .i64 0, .int .i64 0, .int .i64 0, .int .i64 0] 44 (0, 0)) (by (with_reducible repeat (first | refine bN ?_ _ | refine bD ?_ | refine bA ?_ _)); exact a6.out)) : a5 ≠ a4))
        clear a2
        clear a3
        clear a6
        clear HB
        have a2 := n0_
        have a3 := n1_
        have a6 := n2_
        have HB := n3_
        have a7 := n4_
        have f4 := n5_
        have b9 := n6_
        have b0 := n7_
        have c3 := n8_
        have b1 := n9_
        have c4 := e7
        have c6 := e8
        have c5 := e9
        clear n0_ n1_ n2_ n3_ n4_ n5_ n6_ n7_ n8_ n9_ e7 e8 e9
        clear hb hbox hg
        refine hK.out _ _ ⟨(blk_cell a2.out 0).trans rfl, (blk_cell a2.out 1).trans rfl, (blk_cell a2.out 2).trans rfl, (blk_cell a2.out 3).trans rfl, (blk_cell a3.out 0).trans rfl, (blk_cell a3.out 1).trans rfl, (blk_cell a3.out 2).trans rfl, (blk_cell a3.out 3).trans rfl⟩ (fun hHeld => ?_)
        clear hK K
        refine norm_ (a' := ?_) ?_ ?_
        rotate_left
        ·show Act.put _ (some 6) _ = _
         simp only [Act.put, List.setIfInBounds_toArray, List.set_cons_zero, List.set_cons_succ, i64_w, i32_w]
         rfl
        exact norm_ (by first | (simp only [putAll, Act.put, List.setIfInBounds_toArray, List.set_cons_zero, List.set_cons_succ]; done) | (simp only [putAll, Act.put, List.setIfInBounds_toArray, List.set_cons_zero, List.set_cons_succ]; rfl)) (j5 (a4, a5) _ ⟨hHeld, (by (with_reducible repeat (first | refine bN ?_ _ | refine bD ?_ | refine bA ?_ _)); exact a2.out), (by (with_reducible repeat (first | refine bN ?_ _ | refine bD ?_ | refine bA ?_ _)); exact a3.out), (by (with_reducible repeat (first | refine bN ?_ _ | refine bD ?_ | refine bA ?_ _)); exact a6.out), (by (with_reducible repeat (first | refine bN ?_ _ | refine bD ?_ | refine bA ?_ _)); exact a7.out), f3.out, b8.out, a8.out, c1.out, a9.out, c2.out, c5.out, c6.out, f4.out, b9.out, b0.out, c3.out, b1.out, c4.out, (by repeat (first | (with_reducible first | exact HB.out | apply wA | apply wN | apply wD | refine wS ?_ b2.out | refine wS ?_ b3.out | refine wS ?_ b8.out | refine wS ?_ b9.out) | exact HB.out))⟩)
      rintro ⟨a4, a5⟩ f0 ⟨hS_, h0_, h1_, h2_, h3_, h4_, h5_, h6_, h7_, h8_, h9_, j6, j7, j8, j9, l0, l1, l2, l3, l4⟩
      have n0_ : Aside0 (f0.heap[a0]? = some (.cells #[.int .i64 a0_0, .int .i64 a0_1, .int .i64 a0_2, .int .i64 a0_3] 44 (0, 0))) := ⟨h0_⟩
      have n1_ : Aside0 (f0.heap[a1]? = some (.cells #[.int .i64 a1_0, .int .i64 a1_1, .int .i64 a1_2, .int .i64 a1_3] 44 (0, 0))) := ⟨h1_⟩
      have n2_ : Aside0 (f0.heap[a4]? = some (.cells #[.int .i64 0, .int .i64 0, .int .i64 0, .int .i64 0] 44 (0, 0))) := ⟨h2_⟩
      have n3_ : Aside0 (f0.heap[a5]? = some (.cells #[.int .i64 0, .int .i64 0, .int .i64 0, .int .i64 0] 44 (0, 0))) := ⟨h3_⟩
      have n4_ : Aside0 (w.heap.size ≤ a4) := ⟨h4_⟩
      have n5_ : Aside0 (w.heap.size ≤ a4) := ⟨h5_⟩
      have n6_ : Aside0 (a0 ≠ a4) := ⟨h6_⟩
      have n7_ : Aside0 (a4 ≠ a0) := ⟨h7_⟩
      have n8_ : Aside0 (a1 ≠ a4) := ⟨h8_⟩
      have n9_ : Aside0 (a4 ≠ a1) := ⟨h9_⟩
      have e7 : Aside0 (a5 ≠ a4) := ⟨j6⟩
      have e8 : Aside0 (a4 ≠ a5) := ⟨j7⟩
      have e9 : Aside0 (w.heap.size ≤ a5) := ⟨j8⟩
      have g8 : Aside0 (w.heap.size ≤ a5) := ⟨j9⟩
      have g9 : Aside0 (a0 ≠ a5) := ⟨l0⟩
      have h0 : Aside0 (a5 ≠ a0) := ⟨l1⟩
      have j1 : Aside0 (a1 ≠ a5) := ⟨l2⟩
      have j2 : Aside0 (a5 ≠ a1) := ⟨l3⟩
      have j3 : Aside0 (Below w.heap.size w f0) := ⟨l4⟩
      clear a2
      clear a3
      clear HB
      clear h0_ h1_ h2_ h3_ h4_ h5_ h6_ h7_ h8_ h9_ j6 j7 j8 j9 l0 l1 l2 l3 l4
      have a2 := n0_
      have a3 := n1_
      have a6 := n2_
      have a7 := n3_
      have f3 := n4_
      have b8 := n5_
      have a8 := n6_
      have c1 := n7_
      have a9 := n8_
      have c2 := n9_
      have c5 := e7
      have c6 := e8
      have f4 := e9
      have b9 := g8
      have b0 := g9
      have c3 := h0
      have b1 := j1
      have c4 := j2
      have HB := j3
      clear n0_ n1_ n2_ n3_ n4_ n5_ n6_ n7_ n8_ n9_ e7 e8 e9 g8 g9 h0 j1 j2 j3
      have hHeld : f0.cell? ⟨a0, 0, none⟩ = some (.int .i64 a0_0) ∧ f0.cell? ⟨a0, 1, none⟩ = some (.int .i64 a0_1) ∧ f0.cell? ⟨a0, 2, none⟩ = some (.int .i64 a0_2) ∧ f0.cell? ⟨a0, 3, none⟩ = some (.int .i64 a0_3) ∧ f0.cell? ⟨a1, 0, none⟩ = some (.int .i64 a1_0) ∧ f0.cell? ⟨a1, 1, none⟩ = some (.int .i64 a1_1) ∧ f0.cell? ⟨a1, 2, none⟩ = some (.int .i64 a1_2) ∧ f0.cell? ⟨a1, 3, none⟩ = some (.int .i64 a1_3) := hS_
      refine norm_ (a' := ?_) ?_ ?_
      rotate_left
      ·simp only [putAll, Act.put, List.setIfInBounds_toArray, List.set_cons_zero, List.set_cons_succ]
       rfl
      refine one_ (i := 6) (N := none) #[true, true, true, true, true, true, true, false] rfl rfl (one_of HT_.out (by kernel_rfl)) (by decide) (fun K hK => ?_)
      have G0 : f0.cell? ⟨a4, 0, none⟩ = some (.int .i64 0) := (blk_cell a6.out 0).trans rfl
      have C2 := blk_frozen a6.out 0
      have o9 := a8.out
      have p0 := a9.out
      have p1 := c5.out
      have p2 := c1.out
      have p3 := c2.out
      have p4 := c6.out
      have G1 : f0.cell? ⟨a4, 1, none⟩ = some (.int .i64 0) := (blk_cell a6.out 1).trans rfl
      have C3 := blk_frozen a6.out 1
      have p5 := a8.out
      have p6 := a9.out
      have p7 := c5.out
      have p8 := c1.out
      have p9 := c2.out
      have q0 := c6.out
      have G2 : f0.cell? ⟨a4, 2, none⟩ = some (.int .i64 0) := (blk_cell a6.out 2).trans rfl
      have C4 := blk_frozen a6.out 2
      have q1 := a8.out
      have q2 := a9.out
      have q3 := c5.out
      have q4 := c1.out
      have q5 := c2.out
      have q6 := c6.out
      have G3 : f0.cell? ⟨a4, 3, none⟩ = some (.int .i64 0) := (blk_cell a6.out 3).trans rfl
      have C5 := blk_frozen a6.out 3
      have q7 := a8.out
      have q8 := a9.out
      have q9 := c5.out
      have r0 := c1.out
      have r1 := c2.out
      have r2 := c6.out
      refine skip_ (w1 := ?_) (by rfl) rfl ?_ ?_
      rotate_left
      ·go_simp
       rfl
      refine hK.out _ _ ⟨((cell_far (p := ⟨a4, _, none⟩) a8.out _).trans (((cell_far (p := ⟨a4, _, none⟩) a8.out _).trans (((cell_far (p := ⟨a4, _, none⟩) a8.out _).trans (((cell_far (p := ⟨a4, _, none⟩) a8.out _).trans (hHeld.1)))))))), ((cell_far (p := ⟨a4, _, none⟩) a8.out _).trans (((cell_far (p := ⟨a4, _, none⟩) a8.out _).trans (((cell_far (p := ⟨a4, _, none⟩) a8.out _).trans (((cell_far (p := ⟨a4, _, none⟩) a8.out _).trans (hHeld.2.1)))))))), ((cell_far (p := ⟨a4, _, none⟩) a8.out _).trans (((cell_far (p := ⟨a4, _, none⟩) a8.out _).trans (((cell_far (p := ⟨a4, _, none⟩) a8.out _).trans (((cell_far (p := ⟨a4, _, none⟩) a8.out _).trans (hHeld.2.2.1)))))))), ((cell_far (p := ⟨a4, _, none⟩) a8.out _).trans (((cell_far (p := ⟨a4, _, none⟩) a8.out _).trans (((cell_far (p := ⟨a4, _, none⟩) a8.out _).trans (((cell_far (p := ⟨a4, _, none⟩) a8.out _).trans (hHeld.2.2.2.1)))))))), ((cell_far (p := ⟨a4, _, none⟩) a9.out _).trans (((cell_far (p := ⟨a4, _, none⟩) a9.out _).trans (((cell_far (p := ⟨a4, _, none⟩) a9.out _).trans (((cell_far (p := ⟨a4, _, none⟩) a9.out _).trans (hHeld.2.2.2.2.1)))))))), ((cell_far (p := ⟨a4, _, none⟩) a9.out _).trans (((cell_far (p := ⟨a4, _, none⟩) a9.out _).trans (((cell_far (p := ⟨a4, _, none⟩) a9.out _).trans (((cell_far (p := ⟨a4, _, none⟩) a9.out _).trans (hHeld.2.2.2.2.2.1)))))))), ((cell_far (p := ⟨a4, _, none⟩) a9.out _).trans (((cell_far (p := ⟨a4, _, none⟩) a9.out _).trans (((cell_far (p := ⟨a4, _, none⟩) a9.out _).trans (((cell_far (p := ⟨a4, _, none⟩) a9.out _).trans (hHeld.2.2.2.2.2.2.1)))))))), ((cell_far (p := ⟨a4, _, none⟩) a9.out _).trans (((cell_far (p := ⟨a4, _, none⟩) a9.out _).trans (((cell_far (p := ⟨a4, _, none⟩) a9.out _).trans (((cell_far (p := ⟨a4, _, none⟩) a9.out _).trans (hHeld.2.2.2.2.2.2.2))))))))⟩ (fun hHeld => ?_)
      clear hK K
      refine one_ (i := 7) (N := none) #[true, true, true, true, true, true, true, true] rfl rfl (one_of HT_.out (by kernel_rfl)) (by decide) (fun K hK => ?_)
      have G4 : f0.cell? ⟨a5, 0, none⟩ = some (.int .i64 0) := (blk_cell a7.out 0).trans rfl
      have C6 := blk_frozen a7.out 0
      have r3 := b0.out
      have r4 := b1.out
      have r5 := c6.out
      have r6 := c3.out
      have r7 := c4.out
      have r8 := c5.out
      have G5 : f0.cell? ⟨a5, 1, none⟩ = some (.int .i64 0) := (blk_cell a7.out 1).trans rfl
      have C7 := blk_frozen a7.out 1
      have r9 := b0.out
      have t0 := b1.out
      have t1 := c6.out
      have t2 := c3.out
      have t3 := c4.out
      have t4 := c5.out
      have G6 : f0.cell? ⟨a5, 2, none⟩ = some (.int .i64 0) := (blk_cell a7.out 2).trans rfl
      have C8 := blk_frozen a7.out 2
      have t5 := b0.out
      have t6 := b1.out
      have t7 := c6.out
      have t8 := c3.out
      have t9 := c4.out
      have v0 := c5.out
      have G7 : f0.cell? ⟨a5, 3, none⟩ = some (.int .i64 0) := (blk_cell a7.out 3).trans rfl
      have C9 := blk_frozen a7.out 3
      have v1 := b0.out
      have v2 := b1.out
      have v3 := c6.out
      have v4 := c3.out
      have v5 := c4.out
      have v6 := c5.out
      refine skip_ (w1 := ?_) (by rfl) rfl ?_ ?_
      rotate_left
      ·go_simp
       rfl
      refine hK.out _ _ ⟨((cell_far (p := ⟨a5, _, none⟩) b0.out _).trans (((cell_far (p := ⟨a5, _, none⟩) b0.out _).trans (((cell_far (p := ⟨a5, _, none⟩) b0.out _).trans (((cell_far (p := ⟨a5, _, none⟩) b0.out _).trans (hHeld.1)))))))), ((cell_far (p := ⟨a5, _, none⟩) b0.out _).trans (((cell_far (p := ⟨a5, _, none⟩) b0.out _).trans (((cell_far (p := ⟨a5, _, none⟩) b0.out _).trans (((cell_far (p := ⟨a5, _, none⟩) b0.out _).trans (hHeld.2.1)))))))), ((cell_far (p := ⟨a5, _, none⟩) b0.out _).trans (((cell_far (p := ⟨a5, _, none⟩) b0.out _).trans (((cell_far (p := ⟨a5, _, none⟩) b0.out _).trans (((cell_far (p := ⟨a5, _, none⟩) b0.out _).trans (hHeld.2.2.1)))))))), ((cell_far (p := ⟨a5, _, none⟩) b0.out _).trans (((cell_far (p := ⟨a5, _, none⟩) b0.out _).trans (((cell_far (p := ⟨a5, _, none⟩) b0.out _).trans (((cell_far (p := ⟨a5, _, none⟩) b0.out _).trans (hHeld.2.2.2.1)))))))), ((cell_far (p := ⟨a5, _, none⟩) b1.out _).trans (((cell_far (p := ⟨a5, _, none⟩) b1.out _).trans (((cell_far (p := ⟨a5, _, none⟩) b1.out _).trans (((cell_far (p := ⟨a5, _, none⟩) b1.out _).trans (hHeld.2.2.2.2.1)))))))), ((cell_far (p := ⟨a5, _, none⟩) b1.out _).trans (((cell_far (p := ⟨a5, _, none⟩) b1.out _).trans (((cell_far (p := ⟨a5, _, none⟩) b1.out _).trans (((cell_far (p := ⟨a5, _, none⟩) b1.out _).trans (hHeld.2.2.2.2.2.1)))))))), ((cell_far (p := ⟨a5, _, none⟩) b1.out _).trans (((cell_far (p := ⟨a5, _, none⟩) b1.out _).trans (((cell_far (p := ⟨a5, _, none⟩) b1.out _).trans (((cell_far (p := ⟨a5, _, none⟩) b1.out _).trans (hHeld.2.2.2.2.2.2.1)))))))), ((cell_far (p := ⟨a5, _, none⟩) b1.out _).trans (((cell_far (p := ⟨a5, _, none⟩) b1.out _).trans (((cell_far (p := ⟨a5, _, none⟩) b1.out _).trans (((cell_far (p := ⟨a5, _, none⟩) b1.out _).trans (hHeld.2.2.2.2.2.2.2))))))))⟩ (fun hHeld => ?_)
      clear hK K
      refine done_ (done_of HT_.out (by kernel_rfl)) ?_
      have D0 := c1.out
      have D1 := a8.out
      have D2 := c2.out
      have D3 := a9.out
      have D4 := c6.out
      have D5 := c5.out
      have v7 : f0.cell? ⟨a4, 0, none⟩ = some (.int .i64 0) := (blk_cell a6.out 0).trans rfl
      have v8 : f0.cell? ⟨a4, 1, none⟩ = some (.int .i64 0) := (blk_cell a6.out 1).trans rfl
      have v9 : f0.cell? ⟨a4, 2, none⟩ = some (.int .i64 0) := (blk_cell a6.out 2).trans rfl
      have x0 : f0.cell? ⟨a4, 3, none⟩ = some (.int .i64 0) := (blk_cell a6.out 3).trans rfl
      have x1 := blk_frozen a6.out 0
      have x2 := blk_frozen a6.out 1
      have x3 := blk_frozen a6.out 2
      have x4 := blk_frozen a6.out 3
      have D6 := c3.out
      have D7 := b0.out
      have D8 := c4.out
      have D9 := b1.out
      have x5 : f0.cell? ⟨a5, 0, none⟩ = some (.int .i64 0) := (blk_cell a7.out 0).trans rfl
      have x6 : f0.cell? ⟨a5, 1, none⟩ = some (.int .i64 0) := (blk_cell a7.out 1).trans rfl
      have x7 : f0.cell? ⟨a5, 2, none⟩ = some (.int .i64 0) := (blk_cell a7.out 2).trans rfl
      have x8 : f0.cell? ⟨a5, 3, none⟩ = some (.int .i64 0) := (blk_cell a7.out 3).trans rfl
      have x9 := blk_frozen a7.out 0
      have y0 := blk_frozen a7.out 1
      have y1 := blk_frozen a7.out 2
      have y2 := blk_frozen a7.out 3
      try go_wp2_with (first | ((with_reducible refine gC (f := 30) rfl ?_); refine gL (some 20) rfl rfl Tryd.func30 (by kernel_rfl) rfl #[.agg #[.int .i64 b4, .int .i64 b5, .int .i64 b6, .int .i64 b7], .agg #[.int .i64 d4, .int .i64 d5, .int .i64 d6, .int .i64 d7]] rfl (by (try simp only [List.map_toArray, List.map_cons, List.map_nil]); first | done | rfl | (simp only [List.length_drop, List.length_take]; rfl)) ?_; (with_reducible refine (impl_RGUnion.calls b4 b5 b6 b7 d4 d5 d6 d7 g3 g4 g5 g6 false true _ A5.out).mono ?_); rintro e H3 ⟨rfl, hb⟩; refine ⟨_, rfl, ?_⟩; have n0_ := aM (bB (g := a0) (o := .cells #[.int .i64 a0_0, .int .i64 a0_1, .int .i64 a0_2, .int .i64 a0_3] 44 (0, 0)) (by (with_reducible repeat (first | refine bN ?_ _ | refine bD ?_ | refine bA ?_ _)); refine blk_far ?_ b0.out _; (with_reducible repeat (first | refine bN ?_ _ | refine bD ?_ | refine bA ?_ _)); refine blk_far ?_ b0.out _; (with_reducible repeat (first | refine bN ?_ _ | refine bD ?_ | refine bA ?_ _)); refine blk_far ?_ b0.out _; (with_reducible repeat (first | refine bN ?_ _ | refine bD ?_ | refine bA ?_ _)); refine blk_far ?_ b0.out _; (with_reducible repeat (first | refine bN ?_ _ | refine bD ?_ | refine bA ?_ _)); refine blk_far ?_ a8.out _; (with_reducible repeat (first | refine bN ?_ _ | refine bD ?_ | refine bA ?_ _)); refine blk_far ?_ a8.out _; (with_reducible repeat (first | refine bN ?_ _ | refine bD ?_ | refine bA ?_ _)); refine blk_far ?_ a8.out _; (with_reducible repeat (first | refine bN ?_ _ | refine bD ?_ | refine bA ?_ _)); refine blk_far ?_ a8.out _; (with_reducible repeat (first | refine bN ?_ _ | refine bD ?_ | refine bA ?_ _)); exact a2.out) hb); have n1_ := aM (bB (g := a1) (o := .cells #[.int .i64 a1_0, .int .i64 a1_1, .int .i64 a1_2, .int .i64 a1_3] 44 (0, 0)) (by (with_reducible repeat (first | refine bN ?_ _ | refine bD ?_ | refine bA ?_ _)); refine blk_far ?_ b1.out _; (with_reducible repeat (first | refine bN ?_ _ | refine bD ?_ | refine bA ?_ _)); refine blk_far ?_ b1.out _; (with_reducible repeat (first | refine bN ?_ _ | refine bD ?_ | refine bA ?_ _)); refine blk_far ?_ b1.out _; (with_reducible repeat (first | refine bN ?_ _ | refine bD ?_ | refine bA ?_ _)); refine blk_far ?_ b1.out _; (with_reducible repeat (first | refine bN ?_ _ | refine bD ?_ | refine bA ?_ _)); refine blk_far ?_ a9.out _; (with_reducible repeat (first | refine bN ?_ _ | refine bD ?_ | refine bA ?_ _)); refine blk_far ?_ a9.out _; (with_reducible repeat (first | refine bN ?_ _ | refine bD ?_ | refine bA ?_ _)); refine blk_far ?_ a9.out _; (with_reducible repeat (first | refine bN ?_ _ | refine bD ?_ | refine bA ?_ _)); refine blk_far ?_ a9.out _; (with_reducible repeat (first | refine bN ?_ _ | refine bD ?_ | refine bA ?_ _)); exact a3.out) hb); have n2_ := aM (bB (g := a4) (o := .cells #[.int .i64 b4, .int .i64 b5, .int .i64 b6, .int .i64 b7] 44 (0, 0)) (by (with_reducible repeat (first | refine bN ?_ _ | refine bD ?_ | refine bA ?_ _)); refine blk_far ?_ c6.out _; (with_reducible repeat (first | refine bN ?_ _ | refine bD ?_ | refine bA ?_ _)); refine blk_far ?_ c6.out _; (with_reducible repeat (first | refine bN ?_ _ | refine bD ?_ | refine bA ?_ _)); refine blk_far ?_ c6.out _; (with_reducible repeat (first | refine bN ?_ _ | refine bD ?_ | refine bA ?_ _)); refine blk_far ?_ c6.out _; (with_reducible repeat (first | refine bN ?_ _ | refine bD ?_ | refine bA ?_ _)); refine blk_put (cs := #[.int .i64 b4, .int .i64 b5, .int .i64 b6, .int .i64 0]) ?_ 3 _ rfl; (with_reducible repeat (first | refine bN ?_ _ | refine bD ?_ | refine bA ?_ _)); refine blk_put (cs := #[.int .i64 b4, .int .i64 b5, .int .i64 0, .int .i64 0]) ?_ 2 _ rfl; (with_reducible repeat (first | refine bN ?_ _ | refine bD ?_ | refine bA ?_ _)); refine blk_put (cs := #[.int .i64 b4, .int .i64 0, .int .i64 0, .int .i64 0]) ?_ 1 _ rfl; (with_reducible repeat (first | refine bN ?_ _ | refine bD ?_ | refine bA ?_ _)); refine blk_put (cs := #[.int .i64 0, .int .i64 0, .int .i64 0, .int .i64 0]) ?_ 0 _ rfl; (with_reducible repeat (first | refine bN ?_ _ | refine bD ?_ | refine bA ?_ _)); exact a6.out) hb); have n3_ := aM (bB (g := a5) (o := .cells #[.int .i64 d4, .int .i64 d5, .int .i64 d6, .int .i64 d7] 44 (0, 0)) (by (with_reducible repeat (first | refine bN ?_ _ | refine bD ?_ | refine bA ?_ _)); refine blk_put (cs := #[.int .i64 d4, .int .i64 d5, .int .i64 d6, .int .i64 0]) ?_ 3 _ rfl; (with_reducible repeat (first | refine bN ?_ _ | refine bD ?_ | refine bA ?_ _)); refine blk_put (cs := #[.int .i64 d4, .int .i64 d5, .int .i64 0, .int .i64 0]) ?_ 2 _ rfl; (with_reducible repeat (first | refine bN ?_ _ | refine bD ?_ | refine bA ?_ _)); refine blk_put (cs := #[.int .i64 d4, .int .i64 0, .int .i64 0, .int .i64 0]) ?_ 1 _ rfl; (with_reducible repeat (first | refine bN ?_ _ | refine bD ?_ | refine bA ?_ _)); refine blk_put (cs := #[.int .i64 0, .int .i64 0, .int .i64 0, .int .i64 0]) ?_ 0 _ rfl; (with_reducible repeat (first | refine bN ?_ _ | refine bD ?_ | refine bA ?_ _)); refine blk_far ?_ c5.out _; (with_reducible repeat (first | refine bN ?_ _ | refine bD ?_ | refine bA ?_ _)); refine blk_far ?_ c5.out _; (with_reducible repeat (first | refine bN ?_ _ | refine bD ?_ | refine bA ?_ _)); refine blk_far ?_ c5.out _; (with_reducible repeat (first | refine bN ?_ _ | refine bD ?_ | refine bA ?_ _)); refine blk_far ?_ c5.out _; (with_reducible repeat (first | refine bN ?_ _ | refine bD ?_ | refine bA ?_ _)); exact a7.out) hb); have n4_ := aM (wP (by repeat (first | (with_reducible first | exact HB.out | apply wA | apply wN | apply wD | refine wS ?_ b2.out | refine wS ?_ b3.out | refine wS ?_ b8.out | refine wS ?_ b9.out) | exact HB.out)) hb); clear a2; clear a3; clear a6; clear a7; clear HB; have a2 := n0_; have a3 := n1_; have a6 := n2_; have a7 := n3_; have HB := n4_; clear n0_ n1_ n2_ n3_ n4_; (try clear hb); (try clear hb2); (try clear hk); (try clear hi)) | ((with_reducible refine gate_dst (N := 7) rfl ?_); refine box_event ?hg (N := 7) ?hd (cs := #[.int .i64 0, .int .i64 0, .int .i64 0, .int .i64 0]) (t := 44) ?hr ?_; (case hd => rfl); (case hg => rfl); (case hr => first | (go_simp; done) | (go_simp; rfl)); intro f7 hg l5 hbox hb; have n0_ := aM (bB (g := a0) (o := .cells #[.int .i64 a0_0, .int .i64 a0_1, .int .i64 a0_2, .int .i64 a0_3] 44 (0, 0)) (by (with_reducible repeat (first | refine bN ?_ _ | refine bD ?_ | refine bA ?_ _)); exact a2.out) hb); have n1_ := aM (bB (g := a1) (o := .cells #[.int .i64 a1_0, .int .i64 a1_1, .int .i64 a1_2, .int .i64 a1_3] 44 (0, 0)) (by (with_reducible repeat (first | refine bN ?_ _ | refine bD ?_ | refine bA ?_ _)); exact a3.out) hb); have n2_ := aM (bB (g := a4) (o := .cells #[.int .i64 b4, .int .i64 b5, .int .i64 b6, .int .i64 b7] 44 (0, 0)) (by (with_reducible repeat (first | refine bN ?_ _ | refine bD ?_ | refine bA ?_ _)); exact a6.out) hb); have n3_ := aM (bB (g := a5) (o := .cells #[.int .i64 d4, .int .i64 d5, .int .i64 d6, .int .i64 d7] 44 (0, 0)) (by (with_reducible repeat (first | refine bN ?_ _ | refine bD ?_ | refine bA ?_ _)); exact a7.out) hb); have n4_ := aM (wP (by repeat (first | (with_reducible first | exact HB.out | apply wA | apply wN | apply wD | refine wS ?_ b2.out | refine wS ?_ b3.out | refine wS ?_ b8.out | refine wS ?_ b9.out) | exact HB.out)) hb); have n5_ := aM (hbox); have n6_ := aM ((by rw [hg]; exact (below_size (by repeat (first | (with_reducible first | exact HB.out | apply wA | apply wN | apply wD | refine wS ?_ b2.out | refine wS ?_ b3.out | refine wS ?_ b8.out | refine wS ?_ b9.out) | exact HB.out))) : w.heap.size ≤ f7)); have n7_ := aM ((by rw [hg]; exact (below_size (by repeat (first | (with_reducible first | exact HB.out | apply wA | apply wN | apply wD | refine wS ?_ b2.out | refine wS ?_ b3.out | refine wS ?_ b8.out | refine wS ?_ b9.out) | exact HB.out))) : w.heap.size ≤ f7)); have n8_ := aM ((by rw [hg]; exact Nat.ne_of_lt (bL (g := a0) (o := .cells #[.int .i64 a0_0, .int .i64 a0_1, .int .i64 a0_2, .int .i64 a0_3] 44 (0, 0)) (by (with_reducible repeat (first | refine bN ?_ _ | refine bD ?_ | refine bA ?_ _)); exact a2.out)) : a0 ≠ f7)); have n9_ := aM ((by rw [hg]; exact Nat.ne_of_gt (bL (g := a0) (o := .cells #[.int .i64 a0_0, .int .i64 a0_1, .int .i64 a0_2, .int .i64 a0_3] 44 (0, 0)) (by (with_reducible repeat (first | refine bN ?_ _ | refine bD ?_ | refine bA ?_ _)); exact a2.out)) : f7 ≠ a0)); have e7 := aM ((by rw [hg]; exact Nat.ne_of_lt (bL (g := a1) (o := .cells #[.int .i64 a1_0, .int .i64 a1_1, .int .i64 a1_2, .int .i64 a1_3] 44 (0, 0)) (by (with_reducible repeat (first | refine bN ?_ _ | refine bD ?_ | refine bA ?_ _)); exact a3.out)) : a1 ≠ f7)); have e8 := aM ((by rw [hg]; exact Nat.ne_of_gt (bL (g := a1) (o := .cells #[.int .i64 a1_0, .int .i64 a1_1, .int .i64 a1_2, .int .i64 a1_3] 44 (0, 0)) (by (with_reducible repeat (first | refine bN ?_ _ | refine bD ?_ | refine bA ?_ _)); exact a3.out)) : f7 ≠ a1)); have e9 := aM ((by rw [hg]; exact Nat.ne_of_lt (bL (g := a4) (o := .cells #[.int .i64 b4, .int .i64 b5, .int .i64 b6, .int .i64 b7] 44 (0, 0)) (by (with_reducible repeat (first | refine bN ?_ _ | refine bD ?_ | refine bA ?_ _)); exact a6.out)) : a4 ≠ f7)); have g8 := aM ((by rw [hg]; exact Nat.ne_of_gt (bL (g := a4) (o := .cells #[.int .i64 b4, .int .i64 b5, .int .i64 b6, .int .i64 b7] 44 (0, 0)) (by (with_reducible repeat (first | refine bN ?_ _ | refine bD ?_ | refine bA ?_ _)); exact a6.out)) : f7 ≠ a4)); have g9 := aM ((by rw [hg]; exact Nat.ne_of_lt (bL (g := a5) (o := .cells #[.int .i64 d4, .int .i64 d5, .int .i64 d6, .int .i64 d7] 44 (0, 0)) (by (with_reducible repeat (first | refine bN ?_ _ | refine bD ?_ | refine bA ?_ _)); exact a7.out)) : a5 ≠ f7)); have h0 := aM ((by rw [hg]; exact Nat.ne_of_gt (bL (g := a5) (o := .cells #[.int .i64 d4, .int .i64 d5, .int .i64 d6, .int .i64 d7] 44 (0, 0)) (by (with_reducible repeat (first | refine bN ?_ _ | refine bD ?_ | refine bA ?_ _)); exact a7.out)) : f7 ≠ a5)); clear a2; clear a3; clear a6; clear a7; clear HB; have a2 := n0_; have a3 := n1_; have a6 := n2_; have a7 := n3_; have HB := n4_; have d9 := n5_; have G8 := n6_; have j4 := n7_; have h1 := n8_; have m1 := n9_; have h2 := e7; have m2 := e8; have h3 := e9; have m3 := g8; have h4 := g9; have m4 := h0; clear n0_ n1_ n2_ n3_ n4_ n5_ n6_ n7_ n8_ n9_ e7 e8 e9 g8 g9 h0; clear hb hbox hg; have E0 := m1.out; have E1 := h1.out; have E2 := m2.out; have E3 := h2.out; have E4 := m3.out; have E5 := h3.out; have E6 := m4.out; have E7 := h4.out; have y3 : l5.cell? ⟨f7, 0, none⟩ = some (.int .i64 0) := (blk_cell d9.out 0).trans rfl; have y4 : l5.cell? ⟨f7, 1, none⟩ = some (.int .i64 0) := (blk_cell d9.out 1).trans rfl; have y5 : l5.cell? ⟨f7, 2, none⟩ = some (.int .i64 0) := (blk_cell d9.out 2).trans rfl; have y6 : l5.cell? ⟨f7, 3, none⟩ = some (.int .i64 0) := (blk_cell d9.out 3).trans rfl; have y7 := blk_frozen d9.out 0; have y8 := blk_frozen d9.out 1; have y9 := blk_frozen d9.out 2; have A0 := blk_frozen d9.out 3; have A1 : l5.cell? ⟨a4, 0, none⟩ = some (.int .i64 b4) := (blk_cell a6.out 0).trans rfl; have A2 : l5.cell? ⟨a4, 1, none⟩ = some (.int .i64 b5) := (blk_cell a6.out 1).trans rfl; have A7 : l5.cell? ⟨a4, 2, none⟩ = some (.int .i64 b6) := (blk_cell a6.out 2).trans rfl; have A8 : l5.cell? ⟨a4, 3, none⟩ = some (.int .i64 b7) := (blk_cell a6.out 3).trans rfl; have B0 := blk_frozen a6.out 0; have B1 := blk_frozen a6.out 1; have B2 := blk_frozen a6.out 2; have B3 := blk_frozen a6.out 3) | ((with_reducible refine gC (f := 30) rfl ?_); refine gL (some 27) rfl rfl Tryd.func30 (by kernel_rfl) rfl #[.agg #[.int .i64 b4, .int .i64 b5, .int .i64 b6, .int .i64 b7], .agg #[.int .i64 b4, .int .i64 b5, .int .i64 b6, .int .i64 b7]] rfl (by (try simp only [List.map_toArray, List.map_cons, List.map_nil]); first | done | rfl | (simp only [List.length_drop, List.length_take]; rfl)) ?_; (with_reducible refine (impl_RGUnion.calls b4 b5 b6 b7 b4 b5 b6 b7 e5 e6 f2 f5 true true _ A6.out).mono ?_); rintro e H4 ⟨rfl, hb⟩; refine ⟨_, rfl, ?_⟩; have n0_ := aM (bB (g := a0) (o := .cells #[.int .i64 a0_0, .int .i64 a0_1, .int .i64 a0_2, .int .i64 a0_3] 44 (0, 0)) (by (with_reducible repeat (first | refine bN ?_ _ | refine bD ?_ | refine bA ?_ _)); refine blk_far ?_ h1.out _; (with_reducible repeat (first | refine bN ?_ _ | refine bD ?_ | refine bA ?_ _)); refine blk_far ?_ h1.out _; (with_reducible repeat (first | refine bN ?_ _ | refine bD ?_ | refine bA ?_ _)); refine blk_far ?_ h1.out _; (with_reducible repeat (first | refine bN ?_ _ | refine bD ?_ | refine bA ?_ _)); refine blk_far ?_ h1.out _; (with_reducible repeat (first | refine bN ?_ _ | refine bD ?_ | refine bA ?_ _)); exact a2.out) hb); have n1_ := aM (bB (g := a1) (o := .cells #[.int .i64 a1_0, .int .i64 a1_1, .int .i64 a1_2, .int .i64 a1_3] 44 (0, 0)) (by (with_reducible repeat (first | refine bN ?_ _ | refine bD ?_ | refine bA ?_ _)); refine blk_far ?_ h2.out _; (with_reducible repeat (first | refine bN ?_ _ | refine bD ?_ | refine bA ?_ _)); refine blk_far ?_ h2.out _; (with_reducible repeat (first | refine bN ?_ _ | refine bD ?_ | refine bA ?_ _)); refine blk_far ?_ h2.out _; (with_reducible repeat (first | refine bN ?_ _ | refine bD ?_ | refine bA ?_ _)); refine blk_far ?_ h2.out _; (with_reducible repeat (first | refine bN ?_ _ | refine bD ?_ | refine bA ?_ _)); exact a3.out) hb); have n2_ := aM (bB (g := a4) (o := .cells #[.int .i64 b4, .int .i64 b5, .int .i64 b6, .int .i64 b7] 44 (0, 0)) (by (with_reducible repeat (first | refine bN ?_ _ | refine bD ?_ | refine bA ?_ _)); refine blk_far ?_ h3.out _; (with_reducible repeat (first | refine bN ?_ _ | refine bD ?_ | refine bA ?_ _)); refine blk_far ?_ h3.out _; (with_reducible repeat (first | refine bN ?_ _ | refine bD ?_ | refine bA ?_ _)); refine blk_far ?_ h3.out _; (with_reducible repeat (first | refine bN ?_ _ | refine bD ?_ | refine bA ?_ _)); refine blk_far ?_ h3.out _; (with_reducible repeat (first | refine bN ?_ _ | refine bD ?_ | refine bA ?_ _)); exact a6.out) hb); have n3_ := aM (bB (g := a5) (o := .cells #[.int .i64 d4, .int .i64 d5, .int .i64 d6, .int .i64 d7] 44 (0, 0)) (by (with_reducible repeat (first | refine bN ?_ _ | refine bD ?_ | refine bA ?_ _)); refine blk_far ?_ h4.out _; (with_reducible repeat (first | refine bN ?_ _ | refine bD ?_ | refine bA ?_ _)); refine blk_far ?_ h4.out _; (with_reducible repeat (first | refine bN ?_ _ | refine bD ?_ | refine bA ?_ _)); refine blk_far ?_ h4.out _; (with_reducible repeat (first | refine bN ?_ _ | refine bD ?_ | refine bA ?_ _)); refine blk_far ?_ h4.out _; (with_reducible repeat (first | refine bN ?_ _ | refine bD ?_ | refine bA ?_ _)); exact a7.out) hb); have n4_ := aM (bB (g := f7) (o := .cells #[.int .i64 g3, .int .i64 g4, .int .i64 g5, .int .i64 g6] 44 (0, 0)) (by (with_reducible repeat (first | refine bN ?_ _ | refine bD ?_ | refine bA ?_ _)); refine blk_put (cs := #[.int .i64 g3, .int .i64 g4, .int .i64 g5, .int .i64 0]) ?_ 3 _ rfl; (with_reducible repeat (first | refine bN ?_ _ | refine bD ?_ | refine bA ?_ _)); refine blk_put (cs := #[.int .i64 g3, .int .i64 g4, .int .i64 0, .int .i64 0]) ?_ 2 _ rfl; (with_reducible repeat (first | refine bN ?_ _ | refine bD ?_ | refine bA ?_ _)); refine blk_put (cs := #[.int .i64 g3, .int .i64 0, .int .i64 0, .int .i64 0]) ?_ 1 _ rfl; (with_reducible repeat (first | refine bN ?_ _ | refine bD ?_ | refine bA ?_ _)); refine blk_put (cs := #[.int .i64 0, .int .i64 0, .int .i64 0, .int .i64 0]) ?_ 0 _ rfl; (with_reducible repeat (first | refine bN ?_ _ | refine bD ?_ | refine bA ?_ _)); exact d9.out) hb); have n5_ := aM (wP (by repeat (first | (with_reducible first | exact HB.out | apply wA | apply wN | apply wD | refine wS ?_ b2.out | refine wS ?_ b3.out | refine wS ?_ b8.out | refine wS ?_ b9.out | refine wS ?_ j4.out) | exact HB.out)) hb); clear a2; clear a3; clear a6; clear a7; clear d9; clear HB; have a2 := n0_; have a3 := n1_; have a6 := n2_; have a7 := n3_; have d9 := n4_; have HB := n5_; clear n0_ n1_ n2_ n3_ n4_ n5_; (try clear hb); (try clear hb2); (try clear hk); (try clear hi)) | ((with_reducible refine gate_dst (N := 10) rfl ?_); refine box_event ?hg (N := 10) ?hd (cs := #[.int .i64 0, .int .i64 0, .int .i64 0, .int .i64 0]) (t := 44) ?hr ?_; (case hd => rfl); (case hg => rfl); (case hr => first | (go_simp; done) | (go_simp; rfl)); intro c0 hg j0 hbox hb; have n0_ := aM (bB (g := a0) (o := .cells #[.int .i64 a0_0, .int .i64 a0_1, .int .i64 a0_2, .int .i64 a0_3] 44 (0, 0)) (by (with_reducible repeat (first | refine bN ?_ _ | refine bD ?_ | refine bA ?_ _)); exact a2.out) hb); have n1_ := aM (bB (g := a1) (o := .cells #[.int .i64 a1_0, .int .i64 a1_1, .int .i64 a1_2, .int .i64 a1_3] 44 (0, 0)) (by (with_reducible repeat (first | refine bN ?_ _ | refine bD ?_ | refine bA ?_ _)); exact a3.out) hb); have n2_ := aM (bB (g := a4) (o := .cells #[.int .i64 b4, .int .i64 b5, .int .i64 b6, .int .i64 b7] 44 (0, 0)) (by (with_reducible repeat (first | refine bN ?_ _ | refine bD ?_ | refine bA ?_ _)); exact a6.out) hb); have n3_ := aM (bB (g := a5) (o := .cells #[.int .i64 d4, .int .i64 d5, .int .i64 d6, .int .i64 d7] 44 (0, 0)) (by (with_reducible repeat (first | refine bN ?_ _ | refine bD ?_ | refine bA ?_ _)); exact a7.out) hb); have n4_ := aM (bB (g := f7) (o := .cells #[.int .i64 g3, .int .i64 g4, .int .i64 g5, .int .i64 g6] 44 (0, 0)) (by (with_reducible repeat (first | refine bN ?_ _ | refine bD ?_ | refine bA ?_ _)); exact d9.out) hb); have n5_ := aM (wP (by repeat (first | (with_reducible first | exact HB.out | apply wA | apply wN | apply wD | refine wS ?_ b2.out | refine wS ?_ b3.out | refine wS ?_ b8.out | refine wS ?_ b9.out | refine wS ?_ j4.out) | exact HB.out)) hb); have n6_ := aM (hbox); have n7_ := aM ((by rw [hg]; exact (below_size (by repeat (first | (with_reducible first | exact HB.out | apply wA | apply wN | apply wD | refine wS ?_ b2.out | refine wS ?_ b3.out | refine wS ?_ b8.out | refine wS ?_ b9.out | refine wS ?_ j4.out) | exact HB.out))) : w.heap.size ≤ c0)); have n8_ := aM ((by rw [hg]; exact (below_size (by repeat (first | (with_reducible first | exact HB.out | apply wA | apply wN | apply wD | refine wS ?_ b2.out | refine wS ?_ b3.out | refine wS ?_ b8.out | refine wS ?_ b9.out | refine wS ?_ j4.out) | exact HB.out))) : w.heap.size ≤ c0)); have n9_ := aM ((by rw [hg]; exact Nat.ne_of_lt (bL (g := a0) (o := .cells #[.int .i64 a0_0, .int .i64 a0_1, .int .i64 a0_2, .int .i64 a0_3] 44 (0, 0)) (by (with_reducible repeat (first | refine bN ?_ _ | refine bD ?_ | refine bA ?_ _)); exact a2.out)) : a0 ≠ c0)); have e7 := aM ((by rw [hg]; exact Nat.ne_of_gt (bL (g := a0) (o := .cells #[.int .i64 a0_0, .int .i64 a0_1, .int .i64 a0_2, .int .i64 a0_3] 44 (0, 0)) (by (with_reducible repeat (first | refine bN ?_ _ | refine bD ?_ | refine bA ?_ _)); exact a2.out)) : c0 ≠ a0)); have e8 := aM ((by rw [hg]; exact Nat.ne_of_lt (bL (g := a1) (o := .cells #[.int .i64 a1_0, .int .i64 a1_1, .int .i64 a1_2, .int .i64 a1_3] 44 (0, 0)) (by (with_reducible repeat (first | refine bN ?_ _ | refine bD ?_ | refine bA ?_ _)); exact a3.out)) : a1 ≠ c0)); have e9 := aM ((by rw [hg]; exact Nat.ne_of_gt (bL (g := a1) (o := .cells #[.int .i64 a1_0, .int .i64 a1_1, .int .i64 a1_2, .int .i64 a1_3] 44 (0, 0)) (by (with_reducible repeat (first | refine bN ?_ _ | refine bD ?_ | refine bA ?_ _)); exact a3.out)) : c0 ≠ a1)); have g8 := aM ((by rw [hg]; exact Nat.ne_of_lt (bL (g := a4) (o := .cells #[.int .i64 b4, .int .i64 b5, .int .i64 b6, .int .i64 b7] 44 (0, 0)) (by (with_reducible repeat (first | refine bN ?_ _ | refine bD ?_ | refine bA ?_ _)); exact a6.out)) : a4 ≠ c0)); have g9 := aM ((by rw [hg]; exact Nat.ne_of_gt (bL (g := a4) (o := .cells #[.int .i64 b4, .int .i64 b5, .int .i64 b6, .int .i64 b7] 44 (0, 0)) (by (with_reducible repeat (first | refine bN ?_ _ | refine bD ?_ | refine bA ?_ _)); exact a6.out)) : c0 ≠ a4)); have h0 := aM ((by rw [hg]; exact Nat.ne_of_lt (bL (g := a5) (o := .cells #[.int .i64 d4, .int .i64 d5, .int .i64 d6, .int .i64 d7] 44 (0, 0)) (by (with_reducible repeat (first | refine bN ?_ _ | refine bD ?_ | refine bA ?_ _)); exact a7.out)) : a5 ≠ c0)); have j1 := aM ((by rw [hg]; exact Nat.ne_of_gt (bL (g := a5) (o := .cells #[.int .i64 d4, .int .i64 d5, .int .i64 d6, .int .i64 d7] 44 (0, 0)) (by (with_reducible repeat (first | refine bN ?_ _ | refine bD ?_ | refine bA ?_ _)); exact a7.out)) : c0 ≠ a5)); have j2 := aM ((by rw [hg]; exact Nat.ne_of_lt (bL (g := f7) (o := .cells #[.int .i64 g3, .int .i64 g4, .int .i64 g5, .int .i64 g6] 44 (0, 0)) (by (with_reducible repeat (first | refine bN ?_ _ | refine bD ?_ | refine bA ?_ _)); exact d9.out)) : f7 ≠ c0)); have j3 := aM ((by rw [hg]; exact Nat.ne_of_gt (bL (g := f7) (o := .cells #[.int .i64 g3, .int .i64 g4, .int .i64 g5, .int .i64 g6] 44 (0, 0)) (by (with_reducible repeat (first | refine bN ?_ _ | refine bD ?_ | refine bA ?_ _)); exact d9.out)) : c0 ≠ f7)); clear a2; clear a3; clear a6; clear a7; clear d9; clear HB; have a2 := n0_; have a3 := n1_; have a6 := n2_; have a7 := n3_; have d9 := n4_; have HB := n5_; have d3 := n6_; have G9 := n7_; have l7 := n8_; have h5 := n9_; have m5 := e7; have h6 := e8; have m6 := e9; have h7 := g8; have m7 := g9; have h8 := h0; have m8 := j1; have h9 := j2; have m9 := j3; clear n0_ n1_ n2_ n3_ n4_ n5_ n6_ n7_ n8_ n9_ e7 e8 e9 g8 g9 h0 j1 j2 j3; clear hb hbox hg; have E8 := m5.out; have E9 := h5.out; have F0 := m6.out; have F1 := h6.out; have F2 := m7.out; have F3 := h7.out; have F4 := m8.out; have F5 := h8.out; have F6 := m9.out; have F7 := h9.out; have B4 : j0.cell? ⟨c0, 0, none⟩ = some (.int .i64 0) := (blk_cell d3.out 0).trans rfl; have B5 : j0.cell? ⟨c0, 1, none⟩ = some (.int .i64 0) := (blk_cell d3.out 1).trans rfl; have B6 : j0.cell? ⟨c0, 2, none⟩ = some (.int .i64 0) := (blk_cell d3.out 2).trans rfl; have B7 : j0.cell? ⟨c0, 3, none⟩ = some (.int .i64 0) := (blk_cell d3.out 3).trans rfl; have B8 := blk_frozen d3.out 0; have B9 := blk_frozen d3.out 1; have C0 := blk_frozen d3.out 2; have C1 := blk_frozen d3.out 3))
      have n0_ : Aside0 (((((j0.setCell ⟨c0, 0, none⟩ (.int .i64 e5)).setCell ⟨c0, 1, none⟩ (.int .i64 e6)).setCell ⟨c0, 2, none⟩ (.int .i64 f2)).setCell ⟨c0, 3, none⟩ (.int .i64 f5)).heap[a0]? = some (.cells #[.int .i64 a0_0, .int .i64 a0_1, .int .i64 a0_2, .int .i64 a0_3] 44 (0, 0))) := ⟨by (with_reducible repeat (first | refine bN ?_ _ | refine bD ?_ | refine bA ?_ _)); refine blk_far ?_ h5.out _; (with_reducible repeat (first | refine bN ?_ _ | refine bD ?_ | refine bA ?_ _)); refine blk_far ?_ h5.out _; (with_reducible repeat (first | refine bN ?_ _ | refine bD ?_ | refine bA ?_ _)); refine blk_far ?_ h5.out _; (with_reducible repeat (first | refine bN ?_ _ | refine bD ?_ | refine bA ?_ _)); refine blk_far ?_ h5.out _; (with_reducible repeat (first | refine bN ?_ _ | refine bD ?_ | refine bA ?_ _)); exact a2.out⟩
      have n1_ : Aside0 (((((j0.setCell ⟨c0, 0, none⟩ (.int .i64 e5)).setCell ⟨c0, 1, none⟩ (.int .i64 e6)).setCell ⟨c0, 2, none⟩ (.int .i64 f2)).setCell ⟨c0, 3, none⟩ (.int .i64 f5)).heap[a1]? = some (.cells #[.int .i64 a1_0, .int .i64 a1_1, .int .i64 a1_2, .int .i64 a1_3] 44 (0, 0))) := ⟨by (with_reducible repeat (first | refine bN ?_ _ | refine bD ?_ | refine bA ?_ _)); refine blk_far ?_ h6.out _; (with_reducible repeat (first | refine bN ?_ _ | refine bD ?_ | refine bA ?_ _)); refine blk_far ?_ h6.out _; (with_reducible repeat (first | refine bN ?_ _ | refine bD ?_ | refine bA ?_ _)); refine blk_far ?_ h6.out _; (with_reducible repeat (first | refine bN ?_ _ | refine bD ?_ | refine bA ?_ _)); refine blk_far ?_ h6.out _; (with_reducible repeat (first | refine bN ?_ _ | refine bD ?_ | refine bA ?_ _)); exact a3.out⟩
      have n2_ : Aside0 (((((j0.setCell ⟨c0, 0, none⟩ (.int .i64 e5)).setCell ⟨c0, 1, none⟩ (.int .i64 e6)).setCell ⟨c0, 2, none⟩ (.int .i64 f2)).setCell ⟨c0, 3, none⟩ (.int .i64 f5)).heap[a4]? = some (.cells #[.int .i64 b4, .int .i64 b5, .int .i64 b6, .int .i64 b7] 44 (0, 0))) := ⟨by (with_reducible repeat (first | refine bN ?_ _ | refine bD ?_ | refine bA ?_ _)); refine blk_far ?_ h7.out _; (with_reducible repeat (first | refine bN ?_ _ | refine bD ?_ | refine bA ?_ _)); refine blk_far ?_ h7.out _; (with_reducible repeat (first | refine bN ?_ _ | refine bD ?_ | refine bA ?_ _)); refine blk_far ?_ h7.out _; (with_reducible repeat (first | refine bN ?_ _ | refine bD ?_ | refine bA ?_ _)); refine blk_far ?_ h7.out _; (with_reducible repeat (first | refine bN ?_ _ | refine bD ?_ | refine bA ?_ _)); exact a6.out⟩
      have n3_ : Aside0 (((((j0.setCell ⟨c0, 0, none⟩ (.int .i64 e5)).setCell ⟨c0, 1, none⟩ (.int .i64 e6)).setCell ⟨c0, 2, none⟩ (.int .i64 f2)).setCell ⟨c0, 3, none⟩ (.int .i64 f5)).heap[a5]? = some (.cells #[.int .i64 d4, .int .i64 d5, .int .i64 d6, .int .i64 d7] 44 (0, 0))) := ⟨by (with_reducible repeat (first | refine bN ?_ _ | refine bD ?_ | refine bA ?_ _)); refine blk_far ?_ h8.out _; (with_reducible repeat (first | refine bN ?_ _ | refine bD ?_ | refine bA ?_ _)); refine blk_far ?_ h8.out _; (with_reducible repeat (first | refine bN ?_ _ | refine bD ?_ | refine bA ?_ _)); refine blk_far ?_ h8.out _; (with_reducible repeat (first | refine bN ?_ _ | refine bD ?_ | refine bA ?_ _)); refine blk_far ?_ h8.out _; (with_reducible repeat (first | refine bN ?_ _ | refine bD ?_ | refine bA ?_ _)); exact a7.out⟩
      have n4_ : Aside0 (((((j0.setCell ⟨c0, 0, none⟩ (.int .i64 e5)).setCell ⟨c0, 1, none⟩ (.int .i64 e6)).setCell ⟨c0, 2, none⟩ (.int .i64 f2)).setCell ⟨c0, 3, none⟩ (.int .i64 f5)).heap[f7]? = some (.cells #[.int .i64 g3, .int .i64 g4, .int .i64 g5, .int .i64 g6] 44 (0, 0))) := ⟨by (with_reducible repeat (first | refine bN ?_ _ | refine bD ?_ | refine bA ?_ _)); refine blk_far ?_ h9.out _; (with_reducible repeat (first | refine bN ?_ _ | refine bD ?_ | refine bA ?_ _)); refine blk_far ?_ h9.out _; (with_reducible repeat (first | refine bN ?_ _ | refine bD ?_ | refine bA ?_ _)); refine blk_far ?_ h9.out _; (with_reducible repeat (first | refine bN ?_ _ | refine bD ?_ | refine bA ?_ _)); refine blk_far ?_ h9.out _; (with_reducible repeat (first | refine bN ?_ _ | refine bD ?_ | refine bA ?_ _)); exact d9.out⟩
      have n5_ : Aside0 (((((j0.setCell ⟨c0, 0, none⟩ (.int .i64 e5)).setCell ⟨c0, 1, none⟩ (.int .i64 e6)).setCell ⟨c0, 2, none⟩ (.int .i64 f2)).setCell ⟨c0, 3, none⟩ (.int .i64 f5)).heap[c0]? = some (.cells #[.int .i64 e5, .int .i64 e6, .int .i64 f2, .int .i64 f5] 44 (0, 0))) := ⟨by (with_reducible repeat (first | refine bN ?_ _ | refine bD ?_ | refine bA ?_ _)); refine blk_put (cs := #[.int .i64 e5, .int .i64 e6, .int .i64 f2, .int .i64 0]) ?_ 3 _ rfl; (with_reducible repeat (first | refine bN ?_ _ | refine bD ?_ | refine bA ?_ _)); refine blk_put (cs := #[.int .i64 e5, .int .i64 e6, .int .i64 0, .int .i64 0]) ?_ 2 _ rfl; (with_reducible repeat (first | refine bN ?_ _ | refine bD ?_ | refine bA ?_ _)); refine blk_put (cs := #[.int .i64 e5, .int .i64 0, .int .i64 0, .int .i64 0]) ?_ 1 _ rfl; (with_reducible repeat (first | refine bN ?_ _ | refine bD ?_ | refine bA ?_ _)); refine blk_put (cs := #[.int .i64 0, .int .i64 0, .int .i64 0, .int .i64 0]) ?_ 0 _ rfl; (with_reducible repeat (first | refine bN ?_ _ | refine bD ?_ | refine bA ?_ _)); exact d3.out⟩
      have n6_ : Aside0 (Below w.heap.size w ((((j0.setCell ⟨c0, 0, none⟩ (.int .i64 e5)).setCell ⟨c0, 1, none⟩ (.int .i64 e6)).setCell ⟨c0, 2, none⟩ (.int .i64 f2)).setCell ⟨c0, 3, none⟩ (.int .i64 f5))) := ⟨by repeat (first | (with_reducible first | exact HB.out | apply wA | apply wN | apply wD | refine wS ?_ b2.out | refine wS ?_ b3.out | refine wS ?_ b8.out | refine wS ?_ b9.out | refine wS ?_ j4.out | refine wS ?_ l7.out) | exact HB.out)⟩
      (try clear a2)
      (try clear a3)
      (try clear a6)
      (try clear a7)
      (try clear d9)
      (try clear d3)
      (try clear HB)
      generalize ((((j0.setCell ⟨c0, 0, none⟩ (.int .i64 e5)).setCell ⟨c0, 1, none⟩ (.int .i64 e6)).setCell ⟨c0, 2, none⟩ (.int .i64 f2)).setCell ⟨c0, 3, none⟩ (.int .i64 f5)) = w191 at n0_ n1_ n2_ n3_ n4_ n5_ n6_ ⊢
      have a2 := n0_
      have a3 := n1_
      have a6 := n2_
      have a7 := n3_
      have d9 := n4_
      have d3 := n5_
      have HB := n6_
      clear n0_ n1_ n2_ n3_ n4_ n5_ n6_
      have n0_ := aM (bD a2.out)
      have n1_ := aM (bD a3.out)
      have n2_ := aM (bD a6.out)
      have n3_ := aM (bD a7.out)
      have n4_ := aM (bD d9.out)
      have n5_ := aM (bD d3.out)
      have n6_ := aM (wD HB.out)
      clear a2
      clear a3
      clear a6
      clear a7
      clear d9
      clear d3
      clear HB
      have a2 := n0_
      have a3 := n1_
      have a6 := n2_
      have a7 := n3_
      have d9 := n4_
      have d3 := n5_
      have HB := n6_
      clear n0_ n1_ n2_ n3_ n4_ n5_ n6_
      refine start_ (n := 31) (S := fun w' => w'.cell? ⟨a4, 0, none⟩ = some (.int .i64 b4) ∧ w'.cell? ⟨a4, 1, none⟩ = some (.int .i64 b5) ∧ w'.cell? ⟨a4, 2, none⟩ = some (.int .i64 b6) ∧ w'.cell? ⟨a4, 3, none⟩ = some (.int .i64 b7) ∧ w'.cell? ⟨a5, 0, none⟩ = some (.int .i64 d4) ∧ w'.cell? ⟨a5, 1, none⟩ = some (.int .i64 d5) ∧ w'.cell? ⟨a5, 2, none⟩ = some (.int .i64 d6) ∧ w'.cell? ⟨a5, 3, none⟩ = some (.int .i64 d7) ∧ w'.cell? ⟨c0, 0, none⟩ = some (.int .i64 e5) ∧ w'.cell? ⟨c0, 1, none⟩ = some (.int .i64 e6) ∧ w'.cell? ⟨c0, 2, none⟩ = some (.int .i64 f2) ∧ w'.cell? ⟨c0, 3, none⟩ = some (.int .i64 f5)) (ds := []) #[false, false, false, false, false, false, false, false, false, false, false, false, false, false, false, false, false, false, false, false, false, false, false, false, false, false, false, false, false, false, false] (by kernel_rfl) rfl rfl ⟨(blk_cell a6.out 0).trans rfl, (blk_cell a6.out 1).trans rfl, (blk_cell a6.out 2).trans rfl, (blk_cell a6.out 3).trans rfl, (blk_cell a7.out 0).trans rfl, (blk_cell a7.out 1).trans rfl, (blk_cell a7.out 2).trans rfl, (blk_cell a7.out 3).trans rfl, (blk_cell d3.out 0).trans rfl, (blk_cell d3.out 1).trans rfl, (blk_cell d3.out 2).trans rfl, (blk_cell d3.out 3).trans rfl⟩ (fun hHeld => ?_); refine with_tabW laws_FnRGUnion.tab4 laws_FnRGUnion.bits4 (fun HT_ HW_ => ?_)
      generalize w191.drew = w192 at a2 a3 a6 a7 d9 d3 HB hHeld ⊢
      refine pure_ (i := 0) (N := some 31) (v := ?_) (a' := ?_) #[true, false, false, false, false, false, false, false, false, false, false, false, false, false, false, false, false, false, false, false, false, false, false, false, false, false, false, false, false, false, false] rfl rfl (any_of HT_.out (by kernel_rfl)) (fun _ _ _ h => h) (Or.inl ⟨by rfl, ?_⟩) ?_ ?_
      rotate_left
      ·intro w'
       go_simp
       with_reducible rfl
      rotate_left
      ·simp only [Act.put, List.setIfInBounds_toArray, List.set_cons_zero, List.set_cons_succ, i64_w, i32_w]
       rfl
      refine pure_ (i := 1) (N := some 32) (v := ?_) (a' := ?_) #[true, true, false, false, false, false, false, false, false, false, false, false, false, false, false, false, false, false, false, false, false, false, false, false, false, false, false, false, false, false, false] rfl rfl (any_of HT_.out (by kernel_rfl)) (fun _ _ _ h => h) (Or.inl ⟨by rfl, ?_⟩) ?_ ?_
      rotate_left
      ·intro w'
       go_simp
       with_reducible rfl
      rotate_left
      ·simp only [Act.put, List.setIfInBounds_toArray, List.set_cons_zero, List.set_cons_succ, i64_w, i32_w]
       rfl
      refine pure_ (i := 2) (N := some 33) (v := ?_) (a' := ?_) #[true, true, true, false, false, false, false, false, false, false, false, false, false, false, false, false, false, false, false, false, false, false, false, false, false, false, false, false, false, false, false] rfl rfl (any_of HT_.out (by kernel_rfl)) (fun _ _ _ h => h) (Or.inl ⟨by rfl, ?_⟩) ?_ ?_
      rotate_left
      ·intro w'
       go_simp
       with_reducible rfl
      rotate_left
      ·simp only [Act.put, List.setIfInBounds_toArray, List.set_cons_zero, List.set_cons_succ, i64_w, i32_w]
       rfl
      refine pure_ (i := 3) (N := some 34) (v := ?_) (a' := ?_) #[true, true, true, true, false, false, false, false, false, false, false, false, false, false, false, false, false, false, false, false, false, false, false, false, false, false, false, false, false, false, false] rfl rfl (any_of HT_.out (by kernel_rfl)) (fun _ _ _ h => h) (Or.inl ⟨by rfl, ?_⟩) ?_ ?_
      rotate_left
      ·intro w'
       go_simp
       with_reducible rfl
      rotate_left
      ·simp only [Act.put, List.setIfInBounds_toArray, List.set_cons_zero, List.set_cons_succ, i64_w, i32_w]
       rfl
      refine pure_ (i := 4) (N := some 35) (v := ?_) (a' := ?_) #[true, true, true, true, true, false, false, false, false, false, false, false, false, false, false, false, false, false, false, false, false, false, false, false, false, false, false, false, false, false, false] rfl rfl (any_of HT_.out (by kernel_rfl)) (fun _ _ _ h => h) (Or.inl ⟨by rfl, ?_⟩) ?_ ?_
      rotate_left
      ·intro w'
       go_simp
       with_reducible rfl
      rotate_left
      ·simp only [Act.put, List.setIfInBounds_toArray, List.set_cons_zero, List.set_cons_succ, i64_w, i32_w]
       rfl
      refine pure_ (i := 5) (N := some 36) (v := ?_) (a' := ?_) #[true, true, true, true, true, true, false, false, false, false, false, false, false, false, false, false, false, false, false, false, false, false, false, false, false, false, false, false, false, false, false] rfl rfl (any_of HT_.out (by kernel_rfl)) (fun _ _ _ h => h) (Or.inl ⟨by rfl, ?_⟩) ?_ ?_
      rotate_left
      ·intro w'
       go_simp
       with_reducible rfl
      rotate_left
      ·simp only [Act.put, List.setIfInBounds_toArray, List.set_cons_zero, List.set_cons_succ, i64_w, i32_w]
       rfl
      refine take_ (i := 6) (N := some 37) (v := ?_) (a' := ?_) #[true, true, true, true, true, true, true, false, false, false, false, false, false, false, false, false, false, false, false, false, false, false, false, false, false, false, false, false, false, false, false] rfl rfl (take_ofW HT_.out HW_.out (by kernel_rfl)) (fun _ _ _ h => h) (Or.inl ⟨by rfl, ?_⟩) hHeld ?_ ?_
      rotate_left
      ·rintro w' ⟨s0, s1, s2, s3, s4, s5, s6, s7, s8, s9, s10, s11⟩
       go_simp
       with_reducible rfl
      rotate_left
      ·simp only [Act.put, List.setIfInBounds_toArray, List.set_cons_zero, List.set_cons_succ, i64_w, i32_w]
       rfl
      refine take_ (i := 7) (N := some 38) (v := ?_) (a' := ?_) #[true, true, true, true, true, true, true, true, false, false, false, false, false, false, false, false, false, false, false, false, false, false, false, false, false, false, false, false, false, false, false] rfl rfl (take_ofW HT_.out HW_.out (by kernel_rfl)) (fun _ _ _ h => h) (Or.inl ⟨by rfl, ?_⟩) hHeld ?_ ?_
      rotate_left
      ·rintro w' ⟨s0, s1, s2, s3, s4, s5, s6, s7, s8, s9, s10, s11⟩
       go_simp
       with_reducible rfl
      rotate_left
      ·simp only [Act.put, List.setIfInBounds_toArray, List.set_cons_zero, List.set_cons_succ, i64_w, i32_w]
       rfl
      refine one_ (i := 8) (N := some 39) #[true, true, true, true, true, true, true, true, true, false, false, false, false, false, false, false, false, false, false, false, false, false, false, false, false, false, false, false, false, false, false] rfl rfl (one_of HT_.out (by kernel_rfl)) (by decide) (fun K hK => ?_)
      refine goes_ Tryd.func29 (by kernel_rfl) rfl #[.agg #[.int .i64 b4, .int .i64 b5, .int .i64 b6, .int .i64 b7], .agg #[.int .i64 d4, .int .i64 d5, .int .i64 d6, .int .i64 d7]] (by rfl) rfl rfl (by (try simp only [List.map_toArray, List.map_cons, List.map_nil]); first | done | rfl | (simp only [List.length_drop, List.length_take]; rfl)) ?_
      with_reducible refine (spec_RGTouch.calls k b4 b5 b6 b7 d4 d5 d6 d7 f9 _ A9.out).mono ?_
      rintro e H5 ⟨rfl, hb⟩
      refine ⟨_, rfl, ?_⟩
      have n0_ := aM (bB (g := a0) (o := .cells #[.int .i64 a0_0, .int .i64 a0_1, .int .i64 a0_2, .int .i64 a0_3] 44 (0, 0)) (by (with_reducible repeat (first | refine bN ?_ _ | refine bD ?_ | refine bA ?_ _)); exact a2.out) hb)
      have n1_ := aM (bB (g := a1) (o := .cells #[.int .i64 a1_0, .int .i64 a1_1, .int .i64 a1_2, .int .i64 a1_3] 44 (0, 0)) (by (with_reducible repeat (first | refine bN ?_ _ | refine bD ?_ | refine bA ?_ _)); exact a3.out) hb)
      have n2_ := aM (bB (g := a4) (o := .cells #[.int .i64 b4, .int .i64 b5, .int .i64 b6, .int .i64 b7] 44 (0, 0)) (by (with_reducible repeat (first | refine bN ?_ _ | refine bD ?_ | refine bA ?_ _)); exact a6.out) hb)
      have n3_ := aM (bB (g := a5) (o := .cells #[.int .i64 d4, .int .i64 d5, .int .i64 d6, .int .i64 d7] 44 (0, 0)) (by (with_reducible repeat (first | refine bN ?_ _ | refine bD ?_ | refine bA ?_ _)); exact a7.out) hb)
      have n4_ := aM (bB (g := f7) (o := .cells #[.int .i64 g3, .int .i64 g4, .int .i64 g5, .int .i64 g6] 44 (0, 0)) (by (with_reducible repeat (first | refine bN ?_ _ | refine bD ?_ | refine bA ?_ _)); exact d9.out) hb)
      have n5_ := aM (bB (g := c0) (o := .cells #[.int .i64 e5, .int .i64 e6, .int .i64 f2, .int .i64 f5] 44 (0, 0)) (by (with_reducible repeat (first | refine bN ?_ _ | refine bD ?_ | refine bA ?_ _)); exact d3.out) hb)
      have n6_ := aM (wP (by repeat (first | (with_reducible first | exact HB.out | apply wA | apply wN | apply wD | refine wS ?_ b2.out | refine wS ?_ b3.out | refine wS ?_ b8.out | refine wS ?_ b9.out | refine wS ?_ j4.out | refine wS ?_ l7.out) | exact HB.out)) hb)
      clear a2
      clear a3
      clear a6
      clear a7
      clear d9
      clear d3
      clear HB
      have a2 := n0_
      have a3 := n1_
      have a6 := n2_
      have a7 := n3_
      have d9 := n4_
      have d3 := n5_
      have HB := n6_
      clear n0_ n1_ n2_ n3_ n4_ n5_ n6_
      (try clear hb)
      (try clear hb2)
      (try clear hk)
      (try clear hi)
      refine hK.out _ _ ⟨(blk_cell a6.out 0).trans rfl, (blk_cell a6.out 1).trans rfl, (blk_cell a6.out 2).trans rfl, (blk_cell a6.out 3).trans rfl, (blk_cell a7.out 0).trans rfl, (blk_cell a7.out 1).trans rfl, (blk_cell a7.out 2).trans rfl, (blk_cell a7.out 3).trans rfl, (blk_cell d3.out 0).trans rfl, (blk_cell d3.out 1).trans rfl, (blk_cell d3.out 2).trans rfl, (blk_cell d3.out 3).trans rfl⟩ (fun hHeld => ?_)
      clear hK K
      refine norm_ (a' := ?_) ?_ ?_
      rotate_left
      ·show Act.put _ (some 39) _ = _
       simp only [Act.put, List.setIfInBounds_toArray, List.set_cons_zero, List.set_cons_succ, i64_w, i32_w]
       rfl
      refine pure_ (i := 9) (N := some 40) (v := ?_) (a' := ?_) #[true, true, true, true, true, true, true, true, true, true, false, false, false, false, false, false, false, false, false, false, false, false, false, false, false, false, false, false, false, false, false] rfl rfl (any_of HT_.out (by kernel_rfl)) (fun _ _ _ h => h) (Or.inl ⟨by rfl, ?_⟩) ?_ ?_
      rotate_left
      ·intro w'
       go_simp
       with_reducible rfl
      rotate_left
      ·simp only [Act.put, List.setIfInBounds_toArray, List.set_cons_zero, List.set_cons_succ, i64_w, i32_w]
       rfl
      refine pure_ (i := 10) (N := some 41) (v := ?_) (a' := ?_) #[true, true, true, true, true, true, true, true, true, true, true, false, false, false, false, false, false, false, false, false, false, false, false, false, false, false, false, false, false, false, false] rfl rfl (any_of HT_.out (by kernel_rfl)) (fun _ _ _ h => h) (Or.inl ⟨by rfl, ?_⟩) ?_ ?_
      rotate_left
      ·intro w'
       go_simp
       with_reducible rfl
      rotate_left
      ·simp only [Act.put, List.setIfInBounds_toArray, List.set_cons_zero, List.set_cons_succ, i64_w, i32_w]
       rfl
      refine pure_ (i := 11) (N := some 42) (v := ?_) (a' := ?_) #[true, true, true, true, true, true, true, true, true, true, true, true, false, false, false, false, false, false, false, false, false, false, false, false, false, false, false, false, false, false, false] rfl rfl (any_of HT_.out (by kernel_rfl)) (fun _ _ _ h => h) (Or.inl ⟨by rfl, ?_⟩) ?_ ?_
      rotate_left
      ·intro w'
       go_simp
       with_reducible rfl
      rotate_left
      ·simp only [Act.put, List.setIfInBounds_toArray, List.set_cons_zero, List.set_cons_succ, i64_w, i32_w]
       rfl
      refine pure_ (i := 12) (N := some 43) (v := ?_) (a' := ?_) #[true, true, true, true, true, true, true, true, true, true, true, true, true, false, false, false, false, false, false, false, false, false, false, false, false, false, false, false, false, false, false] rfl rfl (any_of HT_.out (by kernel_rfl)) (fun _ _ _ h => h) (Or.inl ⟨by rfl, ?_⟩) ?_ ?_
      rotate_left
      ·intro w'
       go_simp
       with_reducible rfl
      rotate_left
      ·simp only [Act.put, List.setIfInBounds_toArray, List.set_cons_zero, List.set_cons_succ, i64_w, i32_w]
       rfl
      refine pure_ (i := 13) (N := some 44) (v := ?_) (a' := ?_) #[true, true, true, true, true, true, true, true, true, true, true, true, true, true, false, false, false, false, false, false, false, false, false, false, false, false, false, false, false, false, false] rfl rfl (any_of HT_.out (by kernel_rfl)) (fun _ _ _ h => h) (Or.inl ⟨by rfl, ?_⟩) ?_ ?_
      rotate_left
      ·intro w'
       go_simp
       with_reducible rfl
      rotate_left
      ·simp only [Act.put, List.setIfInBounds_toArray, List.set_cons_zero, List.set_cons_succ, i64_w, i32_w]
       rfl
      refine pure_ (i := 14) (N := some 45) (v := ?_) (a' := ?_) #[true, true, true, true, true, true, true, true, true, true, true, true, true, true, true, false, false, false, false, false, false, false, false, false, false, false, false, false, false, false, false] rfl rfl (any_of HT_.out (by kernel_rfl)) (fun _ _ _ h => h) (Or.inl ⟨by rfl, ?_⟩) ?_ ?_
      rotate_left
      ·intro w'
       go_simp
       with_reducible rfl
      rotate_left
      ·simp only [Act.put, List.setIfInBounds_toArray, List.set_cons_zero, List.set_cons_succ, i64_w, i32_w]
       rfl
      refine pure_ (i := 15) (N := some 46) (v := undef) (a' := ?_) #[true, true, true, true, true, true, true, true, true, true, true, true, true, true, true, true, false, false, false, false, false, false, false, false, false, false, false, false, false, false, false] rfl rfl (any_of HT_.out (by kernel_rfl)) (fun _ _ _ h => h) (Or.inr ⟨by rfl, rfl⟩) ?_ ?_
      rotate_left
      ·simp only [Act.put, List.setIfInBounds_toArray, List.set_cons_zero, List.set_cons_succ, i64_w, i32_w]
       rfl
      refine pure_ (i := 16) (N := some 47) (v := undef) (a' := ?_) #[true, true, true, true, true, true, true, true, true, true, true, true, true, true, true, true, true, false, false, false, false, false, false, false, false, false, false, false, false, false, false] rfl rfl (any_of HT_.out (by kernel_rfl)) (fun _ _ _ h => h) (Or.inr ⟨by rfl, rfl⟩) ?_ ?_
      rotate_left
      ·simp only [Act.put, List.setIfInBounds_toArray, List.set_cons_zero, List.set_cons_succ, i64_w, i32_w]
       rfl
      refine pure_ (i := 17) (N := some 48) (v := undef) (a' := ?_) #[true, true, true, true, true, true, true, true, true, true, true, true, true, true, true, true, true, true, false, false, false, false, false, false, false, false, false, false, false, false, false] rfl rfl (any_of HT_.out (by kernel_rfl)) (fun _ _ _ h => h) (Or.inr ⟨by rfl, rfl⟩) ?_ ?_
      rotate_left
      ·simp only [Act.put, List.setIfInBounds_toArray, List.set_cons_zero, List.set_cons_succ, i64_w, i32_w]
       rfl
      refine pure_ (i := 18) (N := some 49) (v := undef) (a' := ?_) #[true, true, true, true, true, true, true, true, true, true, true, true, true, true, true, true, true, true, true, false, false, false, false, false, false, false, false, false, false, false, false] rfl rfl (any_of HT_.out (by kernel_rfl)) (fun _ _ _ h => h) (Or.inr ⟨by rfl, rfl⟩) ?_ ?_
      rotate_left
      ·simp only [Act.put, List.setIfInBounds_toArray, List.set_cons_zero, List.set_cons_succ, i64_w, i32_w]
       rfl
      refine pure_ (i := 19) (N := some 50) (v := undef) (a' := ?_) #[true, true, true, true, true, true, true, true, true, true, true, true, true, true, true, true, true, true, true, true, false, false, false, false, false, false, false, false, false, false, false] rfl rfl (any_of HT_.out (by kernel_rfl)) (fun _ _ _ h => h) (Or.inr ⟨by rfl, rfl⟩) ?_ ?_
      rotate_left
      ·simp only [Act.put, List.setIfInBounds_toArray, List.set_cons_zero, List.set_cons_succ, i64_w, i32_w]
       rfl
      refine pure_ (i := 20) (N := some 51) (v := ?_) (a' := ?_) #[true, true, true, true, true, true, true, true, true, true, true, true, true, true, true, true, true, true, true, true, true, false, false, false, false, false, false, false, false, false, false] rfl rfl (any_of HT_.out (by kernel_rfl)) (fun _ _ _ h => h) (Or.inl ⟨by rfl, ?_⟩) ?_ ?_
      rotate_left
      ·intro w'
       go_simp
       with_reducible rfl
      rotate_left
      ·simp only [Act.put, List.setIfInBounds_toArray, List.set_cons_zero, List.set_cons_succ, i64_w, i32_w]
       rfl
      refine pure_ (i := 21) (N := some 52) (v := ?_) (a' := ?_) #[true, true, true, true, true, true, true, true, true, true, true, true, true, true, true, true, true, true, true, true, true, true, false, false, false, false, false, false, false, false, false] rfl rfl (any_of HT_.out (by kernel_rfl)) (fun _ _ _ h => h) (Or.inl ⟨by rfl, ?_⟩) ?_ ?_
      rotate_left
      ·intro w'
       go_simp
       with_reducible rfl
      rotate_left
      ·simp only [Act.put, List.setIfInBounds_toArray, List.set_cons_zero, List.set_cons_succ, i64_w, i32_w]
       rfl
      refine pure_ (i := 22) (N := some 53) (v := ?_) (a' := ?_) #[true, true, true, true, true, true, true, true, true, true, true, true, true, true, true, true, true, true, true, true, true, true, true, false, false, false, false, false, false, false, false] rfl rfl (any_of HT_.out (by kernel_rfl)) (fun _ _ _ h => h) (Or.inl ⟨by rfl, ?_⟩) ?_ ?_
      rotate_left
      ·intro w'
       go_simp
       with_reducible rfl
      rotate_left
      ·simp only [Act.put, List.setIfInBounds_toArray, List.set_cons_zero, List.set_cons_succ, i64_w, i32_w]
       rfl
      refine pure_ (i := 23) (N := some 54) (v := ?_) (a' := ?_) #[true, true, true, true, true, true, true, true, true, true, true, true, true, true, true, true, true, true, true, true, true, true, true, true, false, false, false, false, false, false, false] rfl rfl (any_of HT_.out (by kernel_rfl)) (fun _ _ _ h => h) (Or.inl ⟨by rfl, ?_⟩) ?_ ?_
      rotate_left
      ·intro w'
       go_simp
       with_reducible rfl
      rotate_left
      ·simp only [Act.put, List.setIfInBounds_toArray, List.set_cons_zero, List.set_cons_succ, i64_w, i32_w]
       rfl
      refine pure_ (i := 24) (N := some 55) (v := ?_) (a' := ?_) #[true, true, true, true, true, true, true, true, true, true, true, true, true, true, true, true, true, true, true, true, true, true, true, true, true, false, false, false, false, false, false] rfl rfl (any_of HT_.out (by kernel_rfl)) (fun _ _ _ h => h) (Or.inl ⟨by rfl, ?_⟩) ?_ ?_
      rotate_left
      ·intro w'
       go_simp
       with_reducible rfl
      rotate_left
      ·simp only [Act.put, List.setIfInBounds_toArray, List.set_cons_zero, List.set_cons_succ, i64_w, i32_w]
       rfl
      refine pure_ (i := 25) (N := some 56) (v := ?_) (a' := ?_) #[true, true, true, true, true, true, true, true, true, true, true, true, true, true, true, true, true, true, true, true, true, true, true, true, true, true, false, false, false, false, false] rfl rfl (any_of HT_.out (by kernel_rfl)) (fun _ _ _ h => h) (Or.inl ⟨by rfl, ?_⟩) ?_ ?_
      rotate_left
      ·intro w'
       go_simp
       with_reducible rfl
      rotate_left
      ·simp only [Act.put, List.setIfInBounds_toArray, List.set_cons_zero, List.set_cons_succ, i64_w, i32_w]
       rfl
      refine take_ (i := 26) (N := some 57) (v := ?_) (a' := ?_) #[true, true, true, true, true, true, true, true, true, true, true, true, true, true, true, true, true, true, true, true, true, true, true, true, true, true, true, false, false, false, false] rfl rfl (take_ofW HT_.out HW_.out (by kernel_rfl)) (fun _ _ _ h => h) (Or.inl ⟨by rfl, ?_⟩) hHeld ?_ ?_
      rotate_left
      ·rintro w' ⟨s0, s1, s2, s3, s4, s5, s6, s7, s8, s9, s10, s11⟩
       go_simp
       with_reducible rfl
      rotate_left
      ·simp only [Act.put, List.setIfInBounds_toArray, List.set_cons_zero, List.set_cons_succ, i64_w, i32_w]
       rfl
      refine take_ (i := 27) (N := some 58) (v := ?_) (a' := ?_) #[true, true, true, true, true, true, true, true, true, true, true, true, true, true, true, true, true, true, true, true, true, true, true, true, true, true, true, true, false, false, false] rfl rfl (take_ofW HT_.out HW_.out (by kernel_rfl)) (fun _ _ _ h => h) (Or.inl ⟨by rfl, ?_⟩) hHeld ?_ ?_
      rotate_left
      ·rintro w' ⟨s0, s1, s2, s3, s4, s5, s6, s7, s8, s9, s10, s11⟩
       go_simp
       with_reducible rfl
      rotate_left
      ·simp only [Act.put, List.setIfInBounds_toArray, List.set_cons_zero, List.set_cons_succ, i64_w, i32_w]
       rfl
      refine one_ (i := 28) (N := some 59) #[true, true, true, true, true, true, true, true, true, true, true, true, true, true, true, true, true, true, true, true, true, true, true, true, true, true, true, true, true, false, false] rfl rfl (one_of HT_.out (by kernel_rfl)) (by decide) (fun K hK => ?_)
      refine goes_ Tryd.func27 (by kernel_rfl) rfl #[.agg #[.int .i64 e5, .int .i64 e6, .int .i64 f2, .int .i64 f5], .agg #[.int .i64 b4, .int .i64 b5, .int .i64 b6, .int .i64 b7]] (by rfl) rfl rfl (by (try simp only [List.map_toArray, List.map_cons, List.map_nil]); first | done | rfl | (simp only [List.length_drop, List.length_take]; rfl)) ?_
      with_reducible refine (spec_RGSame.calls k e5 e6 f2 f5 b4 b5 b6 b7 g1 _ o7.out).mono ?_
      rintro e H6 ⟨rfl, hb⟩
      refine ⟨_, rfl, ?_⟩
      have n0_ := aM (bB (g := a0) (o := .cells #[.int .i64 a0_0, .int .i64 a0_1, .int .i64 a0_2, .int .i64 a0_3] 44 (0, 0)) (by (with_reducible repeat (first | refine bN ?_ _ | refine bD ?_ | refine bA ?_ _)); exact a2.out) hb)
      have n1_ := aM (bB (g := a1) (o := .cells #[.int .i64 a1_0, .int .i64 a1_1, .int .i64 a1_2, .int .i64 a1_3] 44 (0, 0)) (by (with_reducible repeat (first | refine bN ?_ _ | refine bD ?_ | refine bA ?_ _)); exact a3.out) hb)
      have n2_ := aM (bB (g := a4) (o := .cells #[.int .i64 b4, .int .i64 b5, .int .i64 b6, .int .i64 b7] 44 (0, 0)) (by (with_reducible repeat (first | refine bN ?_ _ | refine bD ?_ | refine bA ?_ _)); exact a6.out) hb)
      have n3_ := aM (bB (g := a5) (o := .cells #[.int .i64 d4, .int .i64 d5, .int .i64 d6, .int .i64 d7] 44 (0, 0)) (by (with_reducible repeat (first | refine bN ?_ _ | refine bD ?_ | refine bA ?_ _)); exact a7.out) hb)
      have n4_ := aM (bB (g := f7) (o := .cells #[.int .i64 g3, .int .i64 g4, .int .i64 g5, .int .i64 g6] 44 (0, 0)) (by (with_reducible repeat (first | refine bN ?_ _ | refine bD ?_ | refine bA ?_ _)); exact d9.out) hb)
      have n5_ := aM (bB (g := c0) (o := .cells #[.int .i64 e5, .int .i64 e6, .int .i64 f2, .int .i64 f5] 44 (0, 0)) (by (with_reducible repeat (first | refine bN ?_ _ | refine bD ?_ | refine bA ?_ _)); exact d3.out) hb)
      have n6_ := aM (wP (by repeat (first | (with_reducible first | exact HB.out | apply wA | apply wN | apply wD | refine wS ?_ b2.out | refine wS ?_ b3.out | refine wS ?_ b8.out | refine wS ?_ b9.out | refine wS ?_ j4.out | refine wS ?_ l7.out) | exact HB.out)) hb)
      clear a2
      clear a3
      clear a6
      clear a7
      clear d9
      clear d3
      clear HB
      have a2 := n0_
      have a3 := n1_
      have a6 := n2_
      have a7 := n3_
      have d9 := n4_
      have d3 := n5_
      have HB := n6_
      clear n0_ n1_ n2_ n3_ n4_ n5_ n6_
      (try clear hb)
      (try clear hb2)
      (try clear hk)
      (try clear hi)
      refine hK.out _ _ ⟨(blk_cell a6.out 0).trans rfl, (blk_cell a6.out 1).trans rfl, (blk_cell a6.out 2).trans rfl, (blk_cell a6.out 3).trans rfl, (blk_cell a7.out 0).trans rfl, (blk_cell a7.out 1).trans rfl, (blk_cell a7.out 2).trans rfl, (blk_cell a7.out 3).trans rfl, (blk_cell d3.out 0).trans rfl, (blk_cell d3.out 1).trans rfl, (blk_cell d3.out 2).trans rfl, (blk_cell d3.out 3).trans rfl⟩ (fun hHeld => ?_)
      clear hK K
      refine norm_ (a' := ?_) ?_ ?_
      rotate_left
      ·show Act.put _ (some 59) _ = _
       simp only [Act.put, List.setIfInBounds_toArray, List.set_cons_zero, List.set_cons_succ, i64_w, i32_w]
       rfl
      refine pure_ (i := 29) (N := some 60) (v := ?_) (a' := ?_) #[true, true, true, true, true, true, true, true, true, true, true, true, true, true, true, true, true, true, true, true, true, true, true, true, true, true, true, true, true, true, false] rfl rfl (any_of HT_.out (by kernel_rfl)) (fun _ _ _ h => h) (Or.inl ⟨by rfl, ?_⟩) ?_ ?_
      rotate_left
      ·intro w'
       go_simp
       with_reducible rfl
      rotate_left
      ·simp only [Act.put, List.setIfInBounds_toArray, List.set_cons_zero, List.set_cons_succ, i64_w, i32_w]
       rfl
      refine pure_ (i := 30) (N := some 4) (v := ?_) (a' := ?_) #[true, true, true, true, true, true, true, true, true, true, true, true, true, true, true, true, true, true, true, true, true, true, true, true, true, true, true, true, true, true, true] rfl rfl (any_of HT_.out (by kernel_rfl)) (fun _ _ _ h => h) (Or.inl ⟨by rfl, ?_⟩) ?_ ?_
      rotate_left
      ·intro w'
       go_simp
       with_reducible rfl
      rotate_left
      ·simp only [Act.put, List.setIfInBounds_toArray, List.set_cons_zero, List.set_cons_succ, i64_w, i32_w]
       rfl
      refine done_ (done_of HT_.out (by kernel_rfl)) ?_
      try go_wp2
      go_ret
      exact ⟨by first | rfl | (simp [errW_none, errW_some] <;> rfl) | (simp [*, errW_none, errW_some] <;> rfl), by repeat (first | (with_reducible first | exact HB.out | apply wA | apply wN | apply wD | refine wS ?_ b2.out | refine wS ?_ b3.out | refine wS ?_ b8.out | refine wS ?_ b9.out | refine wS ?_ j4.out | refine wS ?_ l7.out) | exact HB.out)⟩
     ·replace m0 := Bool.eq_false_iff.mpr m0
      subst m0
      have H1 : (some false) = some r := by rw [if_neg (show ¬ (false = true) by decide)] at H; exact H
      clear H
      have H := H1
      clear H1
      exact absurd (H.trans (congrArg some hr1)) (by decide)
   ·rw [if_neg c10] at H
    have c10b0 : (g2 == f9) = false := by simpa using c10
    (try (have c10b1 : decide (g2 = f9) = false := by simpa using c10))
    (try (have c10b2 : (g2 == f9) = false := by simpa using c10))
    (try (have c10b3 : ¬ (g2 = f9) := by simpa using c10))
    clear c10
    exact absurd (H.trans (congrArg some hr1)) (by decide)
  ·replace c8 := Bool.eq_false_iff.mpr c8
   subst c8
   have H1 : (some false) = some r := by rw [if_neg (show ¬ (false = true) by decide)] at H; exact H
   clear H
   have H := H1
   clear H1
   exact absurd (H.trans (congrArg some hr1)) (by decide)
 ·replace c7 := Bool.eq_false_iff.mpr c7
  subst c7
  have H1 : (some false) = some r := by rw [if_neg (show ¬ (false = true) by decide)] at H; exact H
  clear H
  have H := H1
  clear H1
  exact absurd (H.trans (congrArg some hr1)) (by decide)

end Go.Proofs.YtlcoodjkolponaaDoor.PRU
