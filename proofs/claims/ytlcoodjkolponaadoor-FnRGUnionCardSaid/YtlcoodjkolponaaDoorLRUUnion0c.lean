-- written by gprint.py, a program of this claim's own, by means of the kit's print
import Derived.Test.YtlcoodjkolponaaDoorLRUUnion0d
namespace Go.Proofs.YtlcoodjkolponaaDoor.PRU
open Go.RowKit Go.Proofs.YtlcoodjkolponaaDoorW.PrintWords Go.Proofs.YtlcoodjkolponaaDoorW.PrintLast Go.Proofs.YtlcoodjkolponaaDoorW.PrintMore
attribute [local go_sem] max2_int min2_int max_two min_two max_three min_three max_four min_four   -- for this text's walks alone
set_option linter.unusedVariables false
set_option linter.unusedSimpArgs false
open Go.Proofs.YtlcoodjkolponaaDoorW.PrintWords renaming blk_drewN → bN, blk_drew → bD, blk_alloc → bA, below_set → wS, below_alloc → wA, pw_below_drewN → wN, below_drew1 → wD, below_step → wP, blk_below → bB, blk_lt → bL, gate_callee → gC
open Go.Proofs.YtlcoodjkolponaaDoorW.PrintLast renaming goesL_ → gL
open Go.Proofs.YtlcoodjkolponaaDoorW.PrintWords.Aside0 renaming mk → aM
set_option maxHeartbeats 8000000 in
set_option maxRecDepth 100000 in
theorem laws_FnRGUnion.calls0 (k : Nat) (a0_0 : Int) (a0_1 : Int) (a0_2 : Int) (a0_3 : Int) (a1_0 : Int) (a1_1 : Int) (a1_2 : Int) (a1_3 : Int) (r : Bool) (w : World) (hr1 : r = true) (hno : ∀ p q s t x y z u e0 e1 e2 e3, laws_rgFull.f k a0_0 a0_1 a0_2 a0_3 = some (p, q, s, t) → laws_rgFull.f k a1_0 a1_1 a1_2 a1_3 = some (x, y, z, u) → impl_RGUnion.f p q s t x y z u ≠ some (e0, e1, e2, e3, false, true)) (h : laws_FnRGUnion.f k a0_0 a0_1 a0_2 a0_3 a1_0 a1_1 a1_2 a1_3 = some r) :
  Calls Tryd.prog 6 #[.agg #[.int .i64 a0_0, .int .i64 a0_1, .int .i64 a0_2, .int .i64 a0_3], .agg #[.int .i64 a1_0, .int .i64 a1_1, .int .i64 a1_2, .int .i64 a1_3]] w fun e w' => e = .returned (.bool r) ∧ Below w.heap.size w w' := by
 have F3 := Tryd.underlying44
 have HB := aM (Below.refl w.heap.size w)
 have H : ((laws_rgFull.f k a0_0 a0_1 a0_2 a0_3).bind fun d8 => ((laws_rgFull.f k a1_0 a1_1 a1_2 a1_3).bind fun f0 => ((impl_RGUnion.f d8.1 d8.2.1 d8.2.2.1 d8.2.2.2 f0.1 f0.2.1 f0.2.2.1 f0.2.2.2).bind fun f3 => ((impl_RGUnion.f d8.1 d8.2.1 d8.2.2.1 d8.2.2.2 d8.1 d8.2.1 d8.2.2.1 d8.2.2.2).bind fun d0 => (if f3.2.2.2.2.2 = true then (if d0.2.2.2.2.2 = true then ((spec_RGTouch.f k d8.1 d8.2.1 d8.2.2.1 d8.2.2.2 f0.1 f0.2.1 f0.2.2.1 f0.2.2.2).bind fun f5 => (if (f3.2.2.2.2.1 == f5) = true then (if f3.2.2.2.2.1 = true then ((spec_RGHull.f k d8.1 d8.2.1 d8.2.2.1 d8.2.2.2 f0.1 f0.2.1 f0.2.2.1 f0.2.2.2).bind fun d2 => ((spec_RGSame.f k f3.1 f3.2.1 f3.2.2.1 f3.2.2.2.1 d2.1 d2.2.1 d2.2.2.1 d2.2.2.2).bind fun f7 => (if f7 = true then (if d0.2.2.2.2.1 = true then ((spec_RGSame.f k d0.1 d0.2.1 d0.2.2.1 d0.2.2.2.1 d8.1 d8.2.1 d8.2.2.1 d8.2.2.2).bind fun f4 => (some f4)) else (some false)) else (some false)))) else (if d0.2.2.2.2.1 = true then ((spec_RGSame.f k d0.1 d0.2.1 d0.2.2.1 d0.2.2.2.1 d8.1 d8.2.1 d8.2.2.1 d8.2.2.2).bind fun f9 => (some f9)) else (some false))) else (some false))) else (some false)) else (some false)))))) = some r := h
 clear h
 replace H := Option.bind_eq_some_iff.mp H
 obtain ⟨⟨b4, b5, b6, b7⟩, A30, H⟩ := H
 replace H : ((laws_rgFull.f k a1_0 a1_1 a1_2 a1_3).bind fun f0 => ((impl_RGUnion.f b4 b5 b6 b7 f0.1 f0.2.1 f0.2.2.1 f0.2.2.2).bind fun f3 => ((impl_RGUnion.f b4 b5 b6 b7 b4 b5 b6 b7).bind fun d0 => (if f3.2.2.2.2.2 = true then (if d0.2.2.2.2.2 = true then ((spec_RGTouch.f k b4 b5 b6 b7 f0.1 f0.2.1 f0.2.2.1 f0.2.2.2).bind fun f5 => (if (f3.2.2.2.2.1 == f5) = true then (if f3.2.2.2.2.1 = true then ((spec_RGHull.f k b4 b5 b6 b7 f0.1 f0.2.1 f0.2.2.1 f0.2.2.2).bind fun d2 => ((spec_RGSame.f k f3.1 f3.2.1 f3.2.2.1 f3.2.2.2.1 d2.1 d2.2.1 d2.2.2.1 d2.2.2.2).bind fun f7 => (if f7 = true then (if d0.2.2.2.2.1 = true then ((spec_RGSame.f k d0.1 d0.2.1 d0.2.2.1 d0.2.2.2.1 b4 b5 b6 b7).bind fun f4 => (some f4)) else (some false)) else (some false)))) else (if d0.2.2.2.2.1 = true then ((spec_RGSame.f k d0.1 d0.2.1 d0.2.2.1 d0.2.2.2.1 b4 b5 b6 b7).bind fun f9 => (some f9)) else (some false))) else (some false))) else (some false)) else (some false))))) = some r := H
 have A3 := aM A30
 clear A30
 replace H := Option.bind_eq_some_iff.mp H
 obtain ⟨⟨d3, d4, d5, d6⟩, A40, H⟩ := H
 replace H : ((impl_RGUnion.f b4 b5 b6 b7 d3 d4 d5 d6).bind fun f3 => ((impl_RGUnion.f b4 b5 b6 b7 b4 b5 b6 b7).bind fun d0 => (if f3.2.2.2.2.2 = true then (if d0.2.2.2.2.2 = true then ((spec_RGTouch.f k b4 b5 b6 b7 d3 d4 d5 d6).bind fun f5 => (if (f3.2.2.2.2.1 == f5) = true then (if f3.2.2.2.2.1 = true then ((spec_RGHull.f k b4 b5 b6 b7 d3 d4 d5 d6).bind fun d2 => ((spec_RGSame.f k f3.1 f3.2.1 f3.2.2.1 f3.2.2.2.1 d2.1 d2.2.1 d2.2.2.1 d2.2.2.2).bind fun f7 => (if f7 = true then (if d0.2.2.2.2.1 = true then ((spec_RGSame.f k d0.1 d0.2.1 d0.2.2.1 d0.2.2.2.1 b4 b5 b6 b7).bind fun f4 => (some f4)) else (some false)) else (some false)))) else (if d0.2.2.2.2.1 = true then ((spec_RGSame.f k d0.1 d0.2.1 d0.2.2.1 d0.2.2.2.1 b4 b5 b6 b7).bind fun f9 => (some f9)) else (some false))) else (some false))) else (some false)) else (some false)))) = some r := H
 have A4 := aM A40
 clear A40
 replace H := Option.bind_eq_some_iff.mp H
 obtain ⟨⟨f6, f8, g0, g1, g2, m8⟩, A50, H⟩ := H
 replace H : ((impl_RGUnion.f b4 b5 b6 b7 b4 b5 b6 b7).bind fun d0 => (if m8 = true then (if d0.2.2.2.2.2 = true then ((spec_RGTouch.f k b4 b5 b6 b7 d3 d4 d5 d6).bind fun f5 => (if (g2 == f5) = true then (if g2 = true then ((spec_RGHull.f k b4 b5 b6 b7 d3 d4 d5 d6).bind fun d2 => ((spec_RGSame.f k f6 f8 g0 g1 d2.1 d2.2.1 d2.2.2.1 d2.2.2.2).bind fun f7 => (if f7 = true then (if d0.2.2.2.2.1 = true then ((spec_RGSame.f k d0.1 d0.2.1 d0.2.2.1 d0.2.2.2.1 b4 b5 b6 b7).bind fun f4 => (some f4)) else (some false)) else (some false)))) else (if d0.2.2.2.2.1 = true then ((spec_RGSame.f k d0.1 d0.2.1 d0.2.2.1 d0.2.2.2.1 b4 b5 b6 b7).bind fun f9 => (some f9)) else (some false))) else (some false))) else (some false)) else (some false))) = some r := H
 have A5 := aM A50
 clear A50
 replace H := Option.bind_eq_some_iff.mp H
 obtain ⟨⟨d9, e4, e5, e6, g3, m9⟩, A60, H⟩ := H
 replace H : (if m8 = true then (if m9 = true then ((spec_RGTouch.f k b4 b5 b6 b7 d3 d4 d5 d6).bind fun f5 => (if (g2 == f5) = true then (if g2 = true then ((spec_RGHull.f k b4 b5 b6 b7 d3 d4 d5 d6).bind fun d2 => ((spec_RGSame.f k f6 f8 g0 g1 d2.1 d2.2.1 d2.2.2.1 d2.2.2.2).bind fun f7 => (if f7 = true then (if g3 = true then ((spec_RGSame.f k d9 e4 e5 e6 b4 b5 b6 b7).bind fun f4 => (some f4)) else (some false)) else (some false)))) else (if g3 = true then ((spec_RGSame.f k d9 e4 e5 e6 b4 b5 b6 b7).bind fun f9 => (some f9)) else (some false))) else (some false))) else (some false)) else (some false)) = some r := H
 have A6 := aM A60
 clear A60
 by_cases c7 : m8 = true
 ·subst c7
  have H1 : (if m9 = true then ((spec_RGTouch.f k b4 b5 b6 b7 d3 d4 d5 d6).bind fun f5 => (if (g2 == f5) = true then (if g2 = true then ((spec_RGHull.f k b4 b5 b6 b7 d3 d4 d5 d6).bind fun d2 => ((spec_RGSame.f k f6 f8 g0 g1 d2.1 d2.2.1 d2.2.2.1 d2.2.2.2).bind fun f7 => (if f7 = true then (if g3 = true then ((spec_RGSame.f k d9 e4 e5 e6 b4 b5 b6 b7).bind fun f4 => (some f4)) else (some false)) else (some false)))) else (if g3 = true then ((spec_RGSame.f k d9 e4 e5 e6 b4 b5 b6 b7).bind fun f9 => (some f9)) else (some false))) else (some false))) else (some false)) = some r := by rw [if_pos rfl] at H; exact H
  clear H
  have H := H1
  clear H1
  by_cases c8 : m9 = true
  ·subst c8
   have H1 : ((spec_RGTouch.f k b4 b5 b6 b7 d3 d4 d5 d6).bind fun f5 => (if (g2 == f5) = true then (if g2 = true then ((spec_RGHull.f k b4 b5 b6 b7 d3 d4 d5 d6).bind fun d2 => ((spec_RGSame.f k f6 f8 g0 g1 d2.1 d2.2.1 d2.2.2.1 d2.2.2.2).bind fun f7 => (if f7 = true then (if g3 = true then ((spec_RGSame.f k d9 e4 e5 e6 b4 b5 b6 b7).bind fun f4 => (some f4)) else (some false)) else (some false)))) else (if g3 = true then ((spec_RGSame.f k d9 e4 e5 e6 b4 b5 b6 b7).bind fun f9 => (some f9)) else (some false))) else (some false))) = some r := by rw [if_pos rfl] at H; exact H
   clear H
   have H := H1
   clear H1
   replace H := Option.bind_eq_some_iff.mp H
   obtain ⟨f5, A90, H⟩ := H
   replace H : (if (g2 == f5) = true then (if g2 = true then ((spec_RGHull.f k b4 b5 b6 b7 d3 d4 d5 d6).bind fun d2 => ((spec_RGSame.f k f6 f8 g0 g1 d2.1 d2.2.1 d2.2.2.1 d2.2.2.2).bind fun f7 => (if f7 = true then (if g3 = true then ((spec_RGSame.f k d9 e4 e5 e6 b4 b5 b6 b7).bind fun f4 => (some f4)) else (some false)) else (some false)))) else (if g3 = true then ((spec_RGSame.f k d9 e4 e5 e6 b4 b5 b6 b7).bind fun f9 => (some f9)) else (some false))) else (some false)) = some r := H
   have A9 := aM A90
   clear A90
   by_cases c10 : (g2 == f5) = true
   ·rw [if_pos c10] at H
    have c10b0 : (g2 == f5) = true := c10
    (try (have c10b1 : decide (g2 = f5) = true := by simpa using c10))
    (try (have c10b2 : (g2 == f5) = true := by simpa using c10))
    clear c10
    by_cases c11 : g2 = true
    ·subst c11
     have H1 : ((spec_RGHull.f k b4 b5 b6 b7 d3 d4 d5 d6).bind fun d2 => ((spec_RGSame.f k f6 f8 g0 g1 d2.1 d2.2.1 d2.2.2.1 d2.2.2.2).bind fun f7 => (if f7 = true then (if g3 = true then ((spec_RGSame.f k d9 e4 e5 e6 b4 b5 b6 b7).bind fun f4 => (some f4)) else (some false)) else (some false)))) = some r := by rw [if_pos rfl] at H; exact H
     clear H
     have H := H1
     clear H1
     replace H := Option.bind_eq_some_iff.mp H
     obtain ⟨⟨l4, l5, l6, l7⟩, n4, H⟩ := H
     replace H : ((spec_RGSame.f k f6 f8 g0 g1 l4 l5 l6 l7).bind fun f7 => (if f7 = true then (if g3 = true then ((spec_RGSame.f k d9 e4 e5 e6 b4 b5 b6 b7).bind fun f4 => (some f4)) else (some false)) else (some false))) = some r := H
     have A12 := aM n4
     clear n4
     replace H := Option.bind_eq_some_iff.mp H
     obtain ⟨f7, n5, H⟩ := H
     replace H : (if f7 = true then (if g3 = true then ((spec_RGSame.f k d9 e4 e5 e6 b4 b5 b6 b7).bind fun f4 => (some f4)) else (some false)) else (some false)) = some r := H
     have A13 := aM n5
     clear n5
     by_cases c14 : f7 = true
     ·subst c14
      have H1 : (if g3 = true then ((spec_RGSame.f k d9 e4 e5 e6 b4 b5 b6 b7).bind fun f4 => (some f4)) else (some false)) = some r := by rw [if_pos rfl] at H; exact H
      clear H
      have H := H1
      clear H1
      by_cases c15 : g3 = true
      ·subst c15
       have H1 : ((spec_RGSame.f k d9 e4 e5 e6 b4 b5 b6 b7).bind fun f4 => (some f4)) = some r := by rw [if_pos rfl] at H; exact H
       clear H
       have H := H1
       clear H1
       replace H := Option.bind_eq_some_iff.mp H
       obtain ⟨f4, n6, H⟩ := H
       replace H : (some f4) = some r := H
       have A16 := aM n6
       clear n6
       clear hr1
       clear hno
       obtain rfl := Option.some.inj H
       go_enter Tryd.func6, Tryd.ntmps6
       try go_wp2_with (first | ((with_reducible refine gate_dst (N := 2) rfl ?_); refine box_event ?hg (N := 2) ?hd (cs := #[.int .i64 a0_0, .int .i64 a0_1, .int .i64 a0_2, .int .i64 a0_3]) (t := 44) ?hr ?_; (case hd => rfl); (case hg => rfl); (case hr => first | (go_simp; done) | (go_simp; rfl)); intro a0 hg w17 hbox hb; have n0_ := aM (wP (by repeat (first | (with_reducible first | exact HB.out | apply wA | apply wN | apply wD) | exact HB.out)) hb); have n1_ := aM (hbox); have n2_ := aM ((by rw [hg]; exact (below_size (by repeat (first | (with_reducible first | exact HB.out | apply wA | apply wN | apply wD) | exact HB.out))) : w.heap.size ≤ a0)); have n3_ := aM ((by rw [hg]; exact (below_size (by repeat (first | (with_reducible first | exact HB.out | apply wA | apply wN | apply wD) | exact HB.out))) : w.heap.size ≤ a0)); clear HB; have HB := n0_; have a1 := n1_; have B3 := n2_; have b2 := n3_; clear n0_ n1_ n2_ n3_; clear hb hbox hg) | ((with_reducible refine gate_dst (N := 3) rfl ?_); refine box_event ?hg (N := 3) ?hd (cs := #[.int .i64 a1_0, .int .i64 a1_1, .int .i64 a1_2, .int .i64 a1_3]) (t := 44) ?hr ?_; (case hd => rfl); (case hg => rfl); (case hr => first | (go_simp; done) | (go_simp; rfl)); intro a2 hg w18 hbox hb; have n0_ := aM (bB (g := a0) (o := .cells #[.int .i64 a0_0, .int .i64 a0_1, .int .i64 a0_2, .int .i64 a0_3] 44 (0, 0)) (by (with_reducible repeat (first | refine bN ?_ _ | refine bD ?_ | refine bA ?_ _)); exact a1.out) hb); have n1_ := aM (wP (by repeat (first | (with_reducible first | exact HB.out | apply wA | apply wN | apply wD | refine wS ?_ b2.out) | exact HB.out)) hb); have n2_ := aM (hbox); have n3_ := aM ((by rw [hg]; exact (below_size (by repeat (first | (with_reducible first | exact HB.out | apply wA | apply wN | apply wD | refine wS ?_ b2.out) | exact HB.out))) : w.heap.size ≤ a2)); have n4_ := aM ((by rw [hg]; exact (below_size (by repeat (first | (with_reducible first | exact HB.out | apply wA | apply wN | apply wD | refine wS ?_ b2.out) | exact HB.out))) : w.heap.size ≤ a2)); have n5_ := aM ((by rw [hg]; exact Nat.ne_of_lt (bL (g := a0) (o := .cells #[.int .i64 a0_0, .int .i64 a0_1, .int .i64 a0_2, .int .i64 a0_3] 44 (0, 0)) (by (with_reducible repeat (first | refine bN ?_ _ | refine bD ?_ | refine bA ?_ _)); exact a1.out)) : a0 ≠ a2)); have n6_ := aM ((by rw [hg]; exact Nat.ne_of_gt (bL (g := a0) (o := .cells #[.int .i64 a0_0, .int .i64 a0_1, .int .i64 a0_2, .int .i64 a0_3] 44 (0, 0)) (by (with_reducible repeat (first | refine bN ?_ _ | refine bD ?_ | refine bA ?_ _)); exact a1.out)) : a2 ≠ a0)); clear a1; clear HB; have a1 := n0_; have HB := n1_; have a3 := n2_; have B4 := n3_; have b3 := n4_; have n8 := n5_; have n9 := n6_; clear n0_ n1_ n2_ n3_ n4_ n5_ n6_; clear hb hbox hg))
       have n0_ := aM (bD a1.out)
       have n1_ := aM (bD a3.out)
       have n2_ := aM (wD HB.out)
       clear a1
       clear a3
       clear HB
       have a1 := n0_
       have a3 := n1_
       have HB := n2_
       clear n0_ n1_ n2_
       refine start_ (n := 8) (S := fun w' => w'.cell? ⟨a0, 0, none⟩ = some (.int .i64 a0_0) ∧ w'.cell? ⟨a0, 1, none⟩ = some (.int .i64 a0_1) ∧ w'.cell? ⟨a0, 2, none⟩ = some (.int .i64 a0_2) ∧ w'.cell? ⟨a0, 3, none⟩ = some (.int .i64 a0_3) ∧ w'.cell? ⟨a2, 0, none⟩ = some (.int .i64 a1_0) ∧ w'.cell? ⟨a2, 1, none⟩ = some (.int .i64 a1_1) ∧ w'.cell? ⟨a2, 2, none⟩ = some (.int .i64 a1_2) ∧ w'.cell? ⟨a2, 3, none⟩ = some (.int .i64 a1_3)) (ds := []) #[false, false, false, false, false, false, false, false] (by kernel_rfl) rfl rfl ⟨(blk_cell a1.out 0).trans rfl, (blk_cell a1.out 1).trans rfl, (blk_cell a1.out 2).trans rfl, (blk_cell a1.out 3).trans rfl, (blk_cell a3.out 0).trans rfl, (blk_cell a3.out 1).trans rfl, (blk_cell a3.out 2).trans rfl, (blk_cell a3.out 3).trans rfl⟩ (fun hHeld => ?_); refine with_tabW laws_FnRGUnion.tab1 laws_FnRGUnion.bits1 (fun HT_ HW_ => ?_)
       generalize w18.drew = w19 at a1 a3 HB hHeld ⊢
       refine take_ (i := 0) (N := some 13) (v := ?_) (a' := ?_) #[true, false, false, false, false, false, false, false] rfl rfl (take_ofW HT_.out HW_.out (by kernel_rfl)) (fun _ _ _ h => h) (Or.inl ⟨by rfl, ?_⟩) hHeld ?_ ?_
       rotate_left
       ·rintro w' ⟨s0, s1, s2, s3, s4, s5, s6, s7⟩
        go_simp
        with_reducible rfl
       rotate_left
       ·simp only [Act.put, List.setIfInBounds_toArray, List.set_cons_zero, List.set_cons_succ, i64_w, i32_w]
        rfl
       refine take_ (i := 2) (N := some 15) (v := ?_) (a' := ?_) #[true, false, true, false, false, false, false, false] rfl rfl (take_ofW HT_.out HW_.out (by kernel_rfl)) (fun _ _ _ h => h) (Or.inl ⟨by rfl, ?_⟩) hHeld ?_ ?_
       rotate_left
       ·rintro w' ⟨s0, s1, s2, s3, s4, s5, s6, s7⟩
        go_simp
        with_reducible rfl
       rotate_left
       ·simp only [Act.put, List.setIfInBounds_toArray, List.set_cons_zero, List.set_cons_succ, i64_w, i32_w]
        rfl
       refine join_ (σ := Nat × Nat) 2 #[true, true, true, true, true, true, false, false] (fun s_ => [(14, .agg #[.int .i64 b4, .int .i64 b5, .int .i64 b6, .int .i64 b7]), (16, .agg #[.int .i64 d3, .int .i64 d4, .int .i64 d5, .int .i64 d6]), (5, .pointer (some ⟨s_.1, 0, none⟩)), (6, .pointer (some ⟨s_.2, 0, none⟩))]) (fun s_ w' => (w'.cell? ⟨a0, 0, none⟩ = some (.int .i64 a0_0) ∧ w'.cell? ⟨a0, 1, none⟩ = some (.int .i64 a0_1) ∧ w'.cell? ⟨a0, 2, none⟩ = some (.int .i64 a0_2) ∧ w'.cell? ⟨a0, 3, none⟩ = some (.int .i64 a0_3) ∧ w'.cell? ⟨a2, 0, none⟩ = some (.int .i64 a1_0) ∧ w'.cell? ⟨a2, 1, none⟩ = some (.int .i64 a1_1) ∧ w'.cell? ⟨a2, 2, none⟩ = some (.int .i64 a1_2) ∧ w'.cell? ⟨a2, 3, none⟩ = some (.int .i64 a1_3)) ∧ (w'.heap[a0]? = some (.cells #[.int .i64 a0_0, .int .i64 a0_1, .int .i64 a0_2, .int .i64 a0_3] 44 (0, 0))) ∧ (w'.heap[a2]? = some (.cells #[.int .i64 a1_0, .int .i64 a1_1, .int .i64 a1_2, .int .i64 a1_3] 44 (0, 0))) ∧ (w'.heap[s_.1]? = some (.cells #[.int .i64 0, .int .i64 0, .int .i64 0, .int .i64 0] 44 (0, 0))) ∧ (w'.heap[s_.2]? = some (.cells #[.int .i64 0, .int .i64 0, .int .i64 0, .int .i64 0] 44 (0, 0))) ∧ (w.heap.size ≤ s_.1) ∧ (w.heap.size ≤ s_.1) ∧ (a0 ≠ s_.1) ∧ (s_.1 ≠ a0) ∧ (a2 ≠ s_.1) ∧ (s_.1 ≠ a2) ∧ (s_.2 ≠ s_.1) ∧ (s_.1 ≠ s_.2) ∧ (w.heap.size ≤ s_.2) ∧ (w.heap.size ≤ s_.2) ∧ (a0 ≠ s_.2) ∧ (s_.2 ≠ a0) ∧ (a2 ≠ s_.2) ∧ (s_.2 ≠ a2) ∧ (Below w.heap.size w w')) ?_ ?_
       rotate_left
       ·intro j0
        refine join_ (σ := Nat) 3 #[true, true, true, true, true, false, false, false] (fun s_ => [(14, .agg #[.int .i64 b4, .int .i64 b5, .int .i64 b6, .int .i64 b7]), (16, .agg #[.int .i64 d3, .int .i64 d4, .int .i64 d5, .int .i64 d6]), (5, .pointer (some ⟨s_, 0, none⟩))]) (fun s_ w' => (w'.cell? ⟨a0, 0, none⟩ = some (.int .i64 a0_0) ∧ w'.cell? ⟨a0, 1, none⟩ = some (.int .i64 a0_1) ∧ w'.cell? ⟨a0, 2, none⟩ = some (.int .i64 a0_2) ∧ w'.cell? ⟨a0, 3, none⟩ = some (.int .i64 a0_3) ∧ w'.cell? ⟨a2, 0, none⟩ = some (.int .i64 a1_0) ∧ w'.cell? ⟨a2, 1, none⟩ = some (.int .i64 a1_1) ∧ w'.cell? ⟨a2, 2, none⟩ = some (.int .i64 a1_2) ∧ w'.cell? ⟨a2, 3, none⟩ = some (.int .i64 a1_3)) ∧ (w'.heap[a0]? = some (.cells #[.int .i64 a0_0, .int .i64 a0_1, .int .i64 a0_2, .int .i64 a0_3] 44 (0, 0))) ∧ (w'.heap[a2]? = some (.cells #[.int .i64 a1_0, .int .i64 a1_1, .int .i64 a1_2, .int .i64 a1_3] 44 (0, 0))) ∧ (w'.heap[s_]? = some (.cells #[.int .i64 0, .int .i64 0, .int .i64 0, .int .i64 0] 44 (0, 0))) ∧ (w.heap.size ≤ s_) ∧ (w.heap.size ≤ s_) ∧ (a0 ≠ s_) ∧ (s_ ≠ a0) ∧ (a2 ≠ s_) ∧ (s_ ≠ a2) ∧ (Below w.heap.size w w')) ?_ ?_
        rotate_left
        ·intro l2
         refine join_ (σ := Nat) 3 #[true, true, true, true, false, true, false, false] (fun s_ => [(14, .agg #[.int .i64 b4, .int .i64 b5, .int .i64 b6, .int .i64 b7]), (16, .agg #[.int .i64 d3, .int .i64 d4, .int .i64 d5, .int .i64 d6]), (6, .pointer (some ⟨s_, 0, none⟩))]) (fun s_ w' => (w'.cell? ⟨a0, 0, none⟩ = some (.int .i64 a0_0) ∧ w'.cell? ⟨a0, 1, none⟩ = some (.int .i64 a0_1) ∧ w'.cell? ⟨a0, 2, none⟩ = some (.int .i64 a0_2) ∧ w'.cell? ⟨a0, 3, none⟩ = some (.int .i64 a0_3) ∧ w'.cell? ⟨a2, 0, none⟩ = some (.int .i64 a1_0) ∧ w'.cell? ⟨a2, 1, none⟩ = some (.int .i64 a1_1) ∧ w'.cell? ⟨a2, 2, none⟩ = some (.int .i64 a1_2) ∧ w'.cell? ⟨a2, 3, none⟩ = some (.int .i64 a1_3)) ∧ (w'.heap[a0]? = some (.cells #[.int .i64 a0_0, .int .i64 a0_1, .int .i64 a0_2, .int .i64 a0_3] 44 (0, 0))) ∧ (w'.heap[a2]? = some (.cells #[.int .i64 a1_0, .int .i64 a1_1, .int .i64 a1_2, .int .i64 a1_3] 44 (0, 0))) ∧ (w'.heap[s_]? = some (.cells #[.int .i64 0, .int .i64 0, .int .i64 0, .int .i64 0] 44 (0, 0))) ∧ (w.heap.size ≤ s_) ∧ (w.heap.size ≤ s_) ∧ (a0 ≠ s_) ∧ (s_ ≠ a0) ∧ (a2 ≠ s_) ∧ (s_ ≠ a2) ∧ (Below w.heap.size w w')) ?_ ?_
         rotate_left
         ·intro l3
          refine join_ (σ := Nat × Nat) 3 #[true, true, true, false, true, true, false, false] (fun s_ => [(14, .agg #[.int .i64 b4, .int .i64 b5, .int .i64 b6, .int .i64 b7]), (5, .pointer (some ⟨s_.1, 0, none⟩)), (6, .pointer (some ⟨s_.2, 0, none⟩))]) (fun s_ w' => (w'.cell? ⟨a0, 0, none⟩ = some (.int .i64 a0_0) ∧ w'.cell? ⟨a0, 1, none⟩ = some (.int .i64 a0_1) ∧ w'.cell? ⟨a0, 2, none⟩ = some (.int .i64 a0_2) ∧ w'.cell? ⟨a0, 3, none⟩ = some (.int .i64 a0_3) ∧ w'.cell? ⟨a2, 0, none⟩ = some (.int .i64 a1_0) ∧ w'.cell? ⟨a2, 1, none⟩ = some (.int .i64 a1_1) ∧ w'.cell? ⟨a2, 2, none⟩ = some (.int .i64 a1_2) ∧ w'.cell? ⟨a2, 3, none⟩ = some (.int .i64 a1_3)) ∧ (w'.heap[a0]? = some (.cells #[.int .i64 a0_0, .int .i64 a0_1, .int .i64 a0_2, .int .i64 a0_3] 44 (0, 0))) ∧ (w'.heap[a2]? = some (.cells #[.int .i64 a1_0, .int .i64 a1_1, .int .i64 a1_2, .int .i64 a1_3] 44 (0, 0))) ∧ (w'.heap[s_.1]? = some (.cells #[.int .i64 0, .int .i64 0, .int .i64 0, .int .i64 0] 44 (0, 0))) ∧ (w'.heap[s_.2]? = some (.cells #[.int .i64 0, .int .i64 0, .int .i64 0, .int .i64 0] 44 (0, 0))) ∧ (w.heap.size ≤ s_.1) ∧ (w.heap.size ≤ s_.1) ∧ (a0 ≠ s_.1) ∧ (s_.1 ≠ a0) ∧ (a2 ≠ s_.1) ∧ (s_.1 ≠ a2) ∧ (s_.2 ≠ s_.1) ∧ (s_.1 ≠ s_.2) ∧ (w.heap.size ≤ s_.2) ∧ (w.heap.size ≤ s_.2) ∧ (a0 ≠ s_.2) ∧ (s_.2 ≠ a0) ∧ (a2 ≠ s_.2) ∧ (s_.2 ≠ a2) ∧ (Below w.heap.size w w')) ?_ ?_
          rotate_left
          ·intro l1
           refine join_ (σ := Unit) 4 #[true, true, true, true, false, false, false, false] (fun s_ => [(14, .agg #[.int .i64 b4, .int .i64 b5, .int .i64 b6, .int .i64 b7]), (16, .agg #[.int .i64 d3, .int .i64 d4, .int .i64 d5, .int .i64 d6])]) (fun s_ w' => (w'.cell? ⟨a0, 0, none⟩ = some (.int .i64 a0_0) ∧ w'.cell? ⟨a0, 1, none⟩ = some (.int .i64 a0_1) ∧ w'.cell? ⟨a0, 2, none⟩ = some (.int .i64 a0_2) ∧ w'.cell? ⟨a0, 3, none⟩ = some (.int .i64 a0_3) ∧ w'.cell? ⟨a2, 0, none⟩ = some (.int .i64 a1_0) ∧ w'.cell? ⟨a2, 1, none⟩ = some (.int .i64 a1_1) ∧ w'.cell? ⟨a2, 2, none⟩ = some (.int .i64 a1_2) ∧ w'.cell? ⟨a2, 3, none⟩ = some (.int .i64 a1_3)) ∧ (w'.heap[a0]? = some (.cells #[.int .i64 a0_0, .int .i64 a0_1, .int .i64 a0_2, .int .i64 a0_3] 44 (0, 0))) ∧ (w'.heap[a2]? = some (.cells #[.int .i64 a1_0, .int .i64 a1_1, .int .i64 a1_2, .int .i64 a1_3] 44 (0, 0))) ∧ (Below w.heap.size w w')) ?_ ?_
           rotate_left
           ·intro n7
            refine join_ (σ := Nat) 4 #[true, true, true, false, true, false, false, false] (fun s_ => [(14, .agg #[.int .i64 b4, .int .i64 b5, .int .i64 b6, .int .i64 b7]), (5, .pointer (some ⟨s_, 0, none⟩))]) (fun s_ w' => (w'.cell? ⟨a0, 0, none⟩ = some (.int .i64 a0_0) ∧ w'.cell? ⟨a0, 1, none⟩ = some (.int .i64 a0_1) ∧ w'.cell? ⟨a0, 2, none⟩ = some (.int .i64 a0_2) ∧ w'.cell? ⟨a0, 3, none⟩ = some (.int .i64 a0_3) ∧ w'.cell? ⟨a2, 0, none⟩ = some (.int .i64 a1_0) ∧ w'.cell? ⟨a2, 1, none⟩ = some (.int .i64 a1_1) ∧ w'.cell? ⟨a2, 2, none⟩ = some (.int .i64 a1_2) ∧ w'.cell? ⟨a2, 3, none⟩ = some (.int .i64 a1_3)) ∧ (w'.heap[a0]? = some (.cells #[.int .i64 a0_0, .int .i64 a0_1, .int .i64 a0_2, .int .i64 a0_3] 44 (0, 0))) ∧ (w'.heap[a2]? = some (.cells #[.int .i64 a1_0, .int .i64 a1_1, .int .i64 a1_2, .int .i64 a1_3] 44 (0, 0))) ∧ (w'.heap[s_]? = some (.cells #[.int .i64 0, .int .i64 0, .int .i64 0, .int .i64 0] 44 (0, 0))) ∧ (w.heap.size ≤ s_) ∧ (w.heap.size ≤ s_) ∧ (a0 ≠ s_) ∧ (s_ ≠ a0) ∧ (a2 ≠ s_) ∧ (s_ ≠ a2) ∧ (Below w.heap.size w w')) ?_ ?_
            rotate_left
            ·intro n0
             refine join_ (σ := Nat) 4 #[true, true, true, false, false, true, false, false] (fun s_ => [(14, .agg #[.int .i64 b4, .int .i64 b5, .int .i64 b6, .int .i64 b7]), (6, .pointer (some ⟨s_, 0, none⟩))]) (fun s_ w' => (w'.cell? ⟨a0, 0, none⟩ = some (.int .i64 a0_0) ∧ w'.cell? ⟨a0, 1, none⟩ = some (.int .i64 a0_1) ∧ w'.cell? ⟨a0, 2, none⟩ = some (.int .i64 a0_2) ∧ w'.cell? ⟨a0, 3, none⟩ = some (.int .i64 a0_3) ∧ w'.cell? ⟨a2, 0, none⟩ = some (.int .i64 a1_0) ∧ w'.cell? ⟨a2, 1, none⟩ = some (.int .i64 a1_1) ∧ w'.cell? ⟨a2, 2, none⟩ = some (.int .i64 a1_2) ∧ w'.cell? ⟨a2, 3, none⟩ = some (.int .i64 a1_3)) ∧ (w'.heap[a0]? = some (.cells #[.int .i64 a0_0, .int .i64 a0_1, .int .i64 a0_2, .int .i64 a0_3] 44 (0, 0))) ∧ (w'.heap[a2]? = some (.cells #[.int .i64 a1_0, .int .i64 a1_1, .int .i64 a1_2, .int .i64 a1_3] 44 (0, 0))) ∧ (w'.heap[s_]? = some (.cells #[.int .i64 0, .int .i64 0, .int .i64 0, .int .i64 0] 44 (0, 0))) ∧ (w.heap.size ≤ s_) ∧ (w.heap.size ≤ s_) ∧ (a0 ≠ s_) ∧ (s_ ≠ a0) ∧ (a2 ≠ s_) ∧ (s_ ≠ a2) ∧ (Below w.heap.size w w')) ?_ ?_
             rotate_left
             ·intro n1
              refine join_ (σ := Nat × Nat) 4 #[true, false, true, false, true, true, false, false] (fun s_ => [(5, .pointer (some ⟨s_.1, 0, none⟩)), (6, .pointer (some ⟨s_.2, 0, none⟩))]) (fun s_ w' => (w'.cell? ⟨a0, 0, none⟩ = some (.int .i64 a0_0) ∧ w'.cell? ⟨a0, 1, none⟩ = some (.int .i64 a0_1) ∧ w'.cell? ⟨a0, 2, none⟩ = some (.int .i64 a0_2) ∧ w'.cell? ⟨a0, 3, none⟩ = some (.int .i64 a0_3) ∧ w'.cell? ⟨a2, 0, none⟩ = some (.int .i64 a1_0) ∧ w'.cell? ⟨a2, 1, none⟩ = some (.int .i64 a1_1) ∧ w'.cell? ⟨a2, 2, none⟩ = some (.int .i64 a1_2) ∧ w'.cell? ⟨a2, 3, none⟩ = some (.int .i64 a1_3)) ∧ (w'.heap[a0]? = some (.cells #[.int .i64 a0_0, .int .i64 a0_1, .int .i64 a0_2, .int .i64 a0_3] 44 (0, 0))) ∧ (w'.heap[a2]? = some (.cells #[.int .i64 a1_0, .int .i64 a1_1, .int .i64 a1_2, .int .i64 a1_3] 44 (0, 0))) ∧ (w'.heap[s_.1]? = some (.cells #[.int .i64 0, .int .i64 0, .int .i64 0, .int .i64 0] 44 (0, 0))) ∧ (w'.heap[s_.2]? = some (.cells #[.int .i64 0, .int .i64 0, .int .i64 0, .int .i64 0] 44 (0, 0))) ∧ (w.heap.size ≤ s_.1) ∧ (w.heap.size ≤ s_.1) ∧ (a0 ≠ s_.1) ∧ (s_.1 ≠ a0) ∧ (a2 ≠ s_.1) ∧ (s_.1 ≠ a2) ∧ (s_.2 ≠ s_.1) ∧ (s_.1 ≠ s_.2) ∧ (w.heap.size ≤ s_.2) ∧ (w.heap.size ≤ s_.2) ∧ (a0 ≠ s_.2) ∧ (s_.2 ≠ a0) ∧ (a2 ≠ s_.2) ∧ (s_.2 ≠ a2) ∧ (Below w.heap.size w w')) ?_ ?_
              rotate_left
              ·intro n2
               refine join_ (σ := Unit) 5 #[true, true, true, false, false, false, false, false] (fun s_ => [(14, .agg #[.int .i64 b4, .int .i64 b5, .int .i64 b6, .int .i64 b7])]) (fun s_ w' => (w'.cell? ⟨a0, 0, none⟩ = some (.int .i64 a0_0) ∧ w'.cell? ⟨a0, 1, none⟩ = some (.int .i64 a0_1) ∧ w'.cell? ⟨a0, 2, none⟩ = some (.int .i64 a0_2) ∧ w'.cell? ⟨a0, 3, none⟩ = some (.int .i64 a0_3) ∧ w'.cell? ⟨a2, 0, none⟩ = some (.int .i64 a1_0) ∧ w'.cell? ⟨a2, 1, none⟩ = some (.int .i64 a1_1) ∧ w'.cell? ⟨a2, 2, none⟩ = some (.int .i64 a1_2) ∧ w'.cell? ⟨a2, 3, none⟩ = some (.int .i64 a1_3)) ∧ (w'.heap[a0]? = some (.cells #[.int .i64 a0_0, .int .i64 a0_1, .int .i64 a0_2, .int .i64 a0_3] 44 (0, 0))) ∧ (w'.heap[a2]? = some (.cells #[.int .i64 a1_0, .int .i64 a1_1, .int .i64 a1_2, .int .i64 a1_3] 44 (0, 0))) ∧ (Below w.heap.size w w')) ?_ ?_
               rotate_left
               ·intro hJ1
                refine join_ (σ := Nat) 5 #[true, false, true, false, true, false, false, false] (fun s_ => [(5, .pointer (some ⟨s_, 0, none⟩))]) (fun s_ w' => (w'.cell? ⟨a0, 0, none⟩ = some (.int .i64 a0_0) ∧ w'.cell? ⟨a0, 1, none⟩ = some (.int .i64 a0_1) ∧ w'.cell? ⟨a0, 2, none⟩ = some (.int .i64 a0_2) ∧ w'.cell? ⟨a0, 3, none⟩ = some (.int .i64 a0_3) ∧ w'.cell? ⟨a2, 0, none⟩ = some (.int .i64 a1_0) ∧ w'.cell? ⟨a2, 1, none⟩ = some (.int .i64 a1_1) ∧ w'.cell? ⟨a2, 2, none⟩ = some (.int .i64 a1_2) ∧ w'.cell? ⟨a2, 3, none⟩ = some (.int .i64 a1_3)) ∧ (w'.heap[a0]? = some (.cells #[.int .i64 a0_0, .int .i64 a0_1, .int .i64 a0_2, .int .i64 a0_3] 44 (0, 0))) ∧ (w'.heap[a2]? = some (.cells #[.int .i64 a1_0, .int .i64 a1_1, .int .i64 a1_2, .int .i64 a1_3] 44 (0, 0))) ∧ (w'.heap[s_]? = some (.cells #[.int .i64 0, .int .i64 0, .int .i64 0, .int .i64 0] 44 (0, 0))) ∧ (w.heap.size ≤ s_) ∧ (w.heap.size ≤ s_) ∧ (a0 ≠ s_) ∧ (s_ ≠ a0) ∧ (a2 ≠ s_) ∧ (s_ ≠ a2) ∧ (Below w.heap.size w w')) ?_ ?_
                rotate_left
                ·intro hJ4
                 refine join_ (σ := Nat) 5 #[true, false, true, false, false, true, false, false] (fun s_ => [(6, .pointer (some ⟨s_, 0, none⟩))]) (fun s_ w' => (w'.cell? ⟨a0, 0, none⟩ = some (.int .i64 a0_0) ∧ w'.cell? ⟨a0, 1, none⟩ = some (.int .i64 a0_1) ∧ w'.cell? ⟨a0, 2, none⟩ = some (.int .i64 a0_2) ∧ w'.cell? ⟨a0, 3, none⟩ = some (.int .i64 a0_3) ∧ w'.cell? ⟨a2, 0, none⟩ = some (.int .i64 a1_0) ∧ w'.cell? ⟨a2, 1, none⟩ = some (.int .i64 a1_1) ∧ w'.cell? ⟨a2, 2, none⟩ = some (.int .i64 a1_2) ∧ w'.cell? ⟨a2, 3, none⟩ = some (.int .i64 a1_3)) ∧ (w'.heap[a0]? = some (.cells #[.int .i64 a0_0, .int .i64 a0_1, .int .i64 a0_2, .int .i64 a0_3] 44 (0, 0))) ∧ (w'.heap[a2]? = some (.cells #[.int .i64 a1_0, .int .i64 a1_1, .int .i64 a1_2, .int .i64 a1_3] 44 (0, 0))) ∧ (w'.heap[s_]? = some (.cells #[.int .i64 0, .int .i64 0, .int .i64 0, .int .i64 0] 44 (0, 0))) ∧ (w.heap.size ≤ s_) ∧ (w.heap.size ≤ s_) ∧ (a0 ≠ s_) ∧ (s_ ≠ a0) ∧ (a2 ≠ s_) ∧ (s_ ≠ a2) ∧ (Below w.heap.size w w')) ?_ ?_
                 rotate_left
                 ·intro hJ5
                  refine three_ (i := 1) (j := 4) (k := 5) (Ni := some 14) (Nj := some 5) (Nk := some 6) #[true, true, true, false, false, false, false, false] #[true, false, true, false, true, false, false, false] #[true, false, true, false, false, true, false, false] rfl rfl rfl rfl rfl rfl (three_of HT_.out (by kernel_rfl)) (by decide) (by decide) (by decide) (fun K hK => ?_) (fun K hK => ?_) (fun K hK => ?_)
                  ·skip
                   refine goes_ Tryd.func21 (by kernel_rfl) rfl #[.agg #[.int .i64 a0_0, .int .i64 a0_1, .int .i64 a0_2, .int .i64 a0_3]] (by rfl) rfl rfl (by (try simp only [List.map_toArray, List.map_cons, List.map_nil]); first | done | rfl | (simp only [List.length_drop, List.length_take]; rfl)) ?_
                   with_reducible refine (laws_rgFull.calls k a0_0 a0_1 a0_2 a0_3 b4 b5 b6 b7 _ A3.out).mono ?_
                   rintro e w20 ⟨rfl, hb⟩
                   refine ⟨_, rfl, ?_⟩
                   have n0_ := aM (bB (g := a0) (o := .cells #[.int .i64 a0_0, .int .i64 a0_1, .int .i64 a0_2, .int .i64 a0_3] 44 (0, 0)) (by (with_reducible repeat (first | refine bN ?_ _ | refine bD ?_ | refine bA ?_ _)); exact a1.out) hb)
                   have n1_ := aM (bB (g := a2) (o := .cells #[.int .i64 a1_0, .int .i64 a1_1, .int .i64 a1_2, .int .i64 a1_3] 44 (0, 0)) (by (with_reducible repeat (first | refine bN ?_ _ | refine bD ?_ | refine bA ?_ _)); exact a3.out) hb)
                   have n2_ := aM (wP (by repeat (first | (with_reducible first | exact HB.out | apply wA | apply wN | apply wD | refine wS ?_ b2.out | refine wS ?_ b3.out) | exact HB.out)) hb)
                   clear a1
                   clear a3
                   clear HB
                   have a1 := n0_
                   have a3 := n1_
                   have HB := n2_
                   clear n0_ n1_ n2_
                   (try clear hb)
                   (try clear hb2)
                   (try clear hk)
                   (try clear hi)
                   refine hK.out _ _ ⟨(blk_cell a1.out 0).trans rfl, (blk_cell a1.out 1).trans rfl, (blk_cell a1.out 2).trans rfl, (blk_cell a1.out 3).trans rfl, (blk_cell a3.out 0).trans rfl, (blk_cell a3.out 1).trans rfl, (blk_cell a3.out 2).trans rfl, (blk_cell a3.out 3).trans rfl⟩ (fun hHeld => ?_)
                   clear hK K
                   refine norm_ (a' := ?_) ?_ ?_
                   rotate_left
                   ·show Act.put _ (some 14) _ = _
                    simp only [Act.put, List.setIfInBounds_toArray, List.set_cons_zero, List.set_cons_succ, i64_w, i32_w]
                    rfl
                   exact norm_ (by first | (simp only [putAll, Act.put, List.setIfInBounds_toArray, List.set_cons_zero, List.set_cons_succ]; done) | (simp only [putAll, Act.put, List.setIfInBounds_toArray, List.set_cons_zero, List.set_cons_succ]; rfl)) (hJ1 () _ ⟨hHeld, (by (with_reducible repeat (first | refine bN ?_ _ | refine bD ?_ | refine bA ?_ _)); exact a1.out), (by (with_reducible repeat (first | refine bN ?_ _ | refine bD ?_ | refine bA ?_ _)); exact a3.out), (by repeat (first | (with_reducible first | exact HB.out | apply wA | apply wN | apply wD | refine wS ?_ b2.out | refine wS ?_ b3.out) | exact HB.out))⟩)
                  ·skip
                   refine box_step ?hg (N := 5) ?hd (cs := #[.int .i64 0, .int .i64 0, .int .i64 0, .int .i64 0]) (t := 44) ?hr ?_; (case hd => rfl); (case hg => rfl); (case hr => first | (go_simp; done) | (go_simp; rfl))
                   intro a4 hg w20 hbox hb
                   have n0_ := aM (bB (g := a0) (o := .cells #[.int .i64 a0_0, .int .i64 a0_1, .int .i64 a0_2, .int .i64 a0_3] 44 (0, 0)) (by (with_reducible repeat (first | refine bN ?_ _ | refine bD ?_ | refine bA ?_ _)); exact a1.out) hb)
                   have n1_ := aM (bB (g := a2) (o := .cells #[.int .i64 a1_0, .int .i64 a1_1, .int .i64 a1_2, .int .i64 a1_3] 44 (0, 0)) (by (with_reducible repeat (first | refine bN ?_ _ | refine bD ?_ | refine bA ?_ _)); exact a3.out) hb)
                   have n2_ := aM (wP (by repeat (first | (with_reducible first | exact HB.out | apply wA | apply wN | apply wD | refine wS ?_ b2.out | refine wS ?_ b3.out) | exact HB.out)) hb)
                   have n3_ := aM (hbox)
                   have n4_ := aM ((by rw [hg]; exact (below_size (by repeat (first | (with_reducible first | exact HB.out | apply wA | apply wN | apply wD | refine wS ?_ b2.out | refine wS ?_ b3.out) | exact HB.out))) : w.heap.size ≤ a4))
                   have n5_ := aM ((by rw [hg]; exact (below_size (by repeat (first | (with_reducible first | exact HB.out | apply wA | apply wN | apply wD | refine wS ?_ b2.out | refine wS ?_ b3.out) | exact HB.out))) : w.heap.size ≤ a4))
                   have n6_ := aM ((by rw [hg]; exact Nat.ne_of_lt (bL (g := a0) (o := .cells #[.int .i64 a0_0, .int .i64 a0_1, .int .i64 a0_2, .int .i64 a0_3] 44 (0, 0)) (by (with_reducible repeat (first | refine bN ?_ _ | refine bD ?_ | refine bA ?_ _)); exact a1.out)) : a0 ≠ a4))
                   have n7_ := aM ((by rw [hg]; exact Nat.ne_of_gt (bL (g := a0) (o := .cells #[.int .i64 a0_0, .int .i64 a0_1, .int .i64 a0_2, .int .i64 a0_3] 44 (0, 0)) (by (with_reducible repeat (first | refine bN ?_ _ | refine bD ?_ | refine bA ?_ _)); exact a1.out)) : a4 ≠ a0))
                   have n8_ := aM ((by rw [hg]; exact Nat.ne_of_lt (bL (g := a2) (o := .cells #[.int .i64 a1_0, .int .i64 a1_1, .int .i64 a1_2, .int .i64 a1_3] 44 (0, 0)) (by (with_reducible repeat (first | refine bN ?_ _ | refine bD ?_ | refine bA ?_ _)); exact a3.out)) : a2 ≠ a4))
                   have n9_ := aM ((by rw [hg]; exact Nat.ne_of_gt (bL (g := a2) (o := .cells #[.int .i64 a1_0, .int .i64 a1_1, .int .i64 a1_2, .int .i64 a1_3] 44 (0, 0)) (by (with_reducible repeat (first | refine bN ?_ _ | refine bD ?_ | refine bA ?_ _)); exact a3.out)) : a4 ≠ a2))
                   clear a1
                   clear a3
                   clear HB
                   have a1 := n0_
                   have a3 := n1_
                   have HB := n2_
                   have a6 := n3_
                   have f1 := n4_
                   have b8 := n5_
                   have a8 := n6_
                   have c2 := n7_
                   have a9 := n8_
                   have c3 := n9_
                   clear n0_ n1_ n2_ n3_ n4_ n5_ n6_ n7_ n8_ n9_
                   clear hb hbox hg
                   refine hK.out _ _ ⟨(blk_cell a1.out 0).trans rfl, (blk_cell a1.out 1).trans rfl, (blk_cell a1.out 2).trans rfl, (blk_cell a1.out 3).trans rfl, (blk_cell a3.out 0).trans rfl, (blk_cell a3.out 1).trans rfl, (blk_cell a3.out 2).trans rfl, (blk_cell a3.out 3).trans rfl⟩ (fun hHeld => ?_)
                   clear hK K
                   refine norm_ (a' := ?_) ?_ ?_
                   rotate_left
                   ·show Act.put _ (some 5) _ = _
                    simp only [Act.put, List.setIfInBounds_toArray, List.set_cons_zero, List.set_cons_succ, i64_w, i32_w]
                    rfl
                   exact norm_ (by first | (simp only [putAll, Act.put, List.setIfInBounds_toArray, List.set_cons_zero, List.set_cons_succ]; done) | (simp only [putAll, Act.put, List.setIfInBounds_toArray, List.set_cons_zero, List.set_cons_succ]; rfl)) (hJ4 (a4) _ ⟨hHeld, (by (with_reducible repeat (first | refine bN ?_ _ | refine bD ?_ | refine bA ?_ _)); exact a1.out), (by (with_reducible repeat (first | refine bN ?_ _ | refine bD ?_ | refine bA ?_ _)); exact a3.out), (by (with_reducible repeat (first | refine bN ?_ _ | refine bD ?_ | refine bA ?_ _)); exact a6.out), f1.out, b8.out, a8.out, c2.out, a9.out, c3.out, (by repeat (first | (with_reducible first | exact HB.out | apply wA | apply wN | apply wD | refine wS ?_ b2.out | refine wS ?_ b3.out | refine wS ?_ b8.out) | exact HB.out))⟩)
                  ·skip
                   refine box_step ?hg (N := 6) ?hd (cs := #[.int .i64 0, .int .i64 0, .int .i64 0, .int .i64 0]) (t := 44) ?hr ?_; (case hd => rfl); (case hg => rfl); (case hr => first | (go_simp; done) | (go_simp; rfl))
                   intro a5 hg w20 hbox hb
                   have n0_ := aM (bB (g := a0) (o := .cells #[.int .i64 a0_0, .int .i64 a0_1, .int .i64 a0_2, .int .i64 a0_3] 44 (0, 0)) (by (with_reducible repeat (first | refine bN ?_ _ | refine bD ?_ | refine bA ?_ _)); exact a1.out) hb)
                   have n1_ := aM (bB (g := a2) (o := .cells #[.int .i64 a1_0, .int .i64 a1_1, .int .i64 a1_2, .int .i64 a1_3] 44 (0, 0)) (by (with_reducible repeat (first | refine bN ?_ _ | refine bD ?_ | refine bA ?_ _)); exact a3.out) hb)
                   have n2_ := aM (wP (by repeat (first | (with_reducible first | exact HB.out | apply wA | apply wN | apply wD | refine wS ?_ b2.out | refine wS ?_ b3.out) | exact HB.out)) hb)
                   have n3_ := aM (hbox)
                   have n4_ := aM ((by rw [hg]; exact (below_size (by repeat (first | (with_reducible first | exact HB.out | apply wA | apply wN | apply wD | refine wS ?_ b2.out | refine wS ?_ b3.out) | exact HB.out))) : w.heap.size ≤ a5))
                   have n5_ := aM ((by rw [hg]; exact (below_size (by repeat (first | (with_reducible first | exact HB.out | apply wA | apply wN | apply wD | refine wS ?_ b2.out | refine wS ?_ b3.out) | exact HB.out))) : w.heap.size ≤ a5))
                   have n6_ := aM ((by rw [hg]; exact Nat.ne_of_lt (bL (g := a0) (o := .cells #[.int .i64 a0_0, .int .i64 a0_1, .int .i64 a0_2, .int .i64 a0_3] 44 (0, 0)) (by (with_reducible repeat (first | refine bN ?_ _ | refine bD ?_ | refine bA ?_ _)); exact a1.out)) : a0 ≠ a5))
                   have n7_ := aM ((by rw [hg]; exact Nat.ne_of_gt (bL (g := a0) (o := .cells #[.int .i64 a0_0, .int .i64 a0_1, .int .i64 a0_2, .int .i64 a0_3] 44 (0, 0)) (by (with_reducible repeat (first | refine bN ?_ _ | refine bD ?_ | refine bA ?_ _)); exact a1.out)) : a5 ≠ a0))
                   have n8_ := aM ((by rw [hg]; exact Nat.ne_of_lt (bL (g := a2) (o := .cells #[.int .i64 a1_0, .int .i64 a1_1, .int .i64 a1_2, .int .i64 a1_3] 44 (0, 0)) (by (with_reducible repeat (first | refine bN ?_ _ | refine bD ?_ | refine bA ?_ _)); exact a3.out)) : a2 ≠ a5))
                   have n9_ := aM ((by rw [hg]; exact Nat.ne_of_gt (bL (g := a2) (o := .cells #[.int .i64 a1_0, .int .i64 a1_1, .int .i64 a1_2, .int .i64 a1_3] 44 (0, 0)) (by (with_reducible repeat (first | refine bN ?_ _ | refine bD ?_ | refine bA ?_ _)); exact a3.out)) : a5 ≠ a2))
                   clear a1
                   clear a3
                   clear HB
                   have a1 := n0_
                   have a3 := n1_
                   have HB := n2_
                   have a7 := n3_
                   have f2 := n4_
                   have b9 := n5_
                   have b0 := n6_
                   have c4 := n7_
                   have b1 := n8_
                   have c5 := n9_
                   clear n0_ n1_ n2_ n3_ n4_ n5_ n6_ n7_ n8_ n9_
                   clear hb hbox hg
                   refine hK.out _ _ ⟨(blk_cell a1.out 0).trans rfl, (blk_cell a1.out 1).trans rfl, (blk_cell a1.out 2).trans rfl, (blk_cell a1.out 3).trans rfl, (blk_cell a3.out 0).trans rfl, (blk_cell a3.out 1).trans rfl, (blk_cell a3.out 2).trans rfl, (blk_cell a3.out 3).trans rfl⟩ (fun hHeld => ?_)
                   clear hK K
                   refine norm_ (a' := ?_) ?_ ?_
                   rotate_left
                   ·show Act.put _ (some 6) _ = _
                    simp only [Act.put, List.setIfInBounds_toArray, List.set_cons_zero, List.set_cons_succ, i64_w, i32_w]
                    rfl
                   exact norm_ (by first | (simp only [putAll, Act.put, List.setIfInBounds_toArray, List.set_cons_zero, List.set_cons_succ]; done) | (simp only [putAll, Act.put, List.setIfInBounds_toArray, List.set_cons_zero, List.set_cons_succ]; rfl)) (hJ5 (a5) _ ⟨hHeld, (by (with_reducible repeat (first | refine bN ?_ _ | refine bD ?_ | refine bA ?_ _)); exact a1.out), (by (with_reducible repeat (first | refine bN ?_ _ | refine bD ?_ | refine bA ?_ _)); exact a3.out), (by (with_reducible repeat (first | refine bN ?_ _ | refine bD ?_ | refine bA ?_ _)); exact a7.out), f2.out, b9.out, b0.out, c4.out, b1.out, c5.out, (by repeat (first | (with_reducible first | exact HB.out | apply wA | apply wN | apply wD | refine wS ?_ b2.out | refine wS ?_ b3.out | refine wS ?_ b9.out) | exact HB.out))⟩)
                 ·skip
                  rintro a5 w21 ⟨hS_, h0_, h1_, h2_, h3_, h4_, h5_, h6_, h7_, h8_, h9_⟩
                  have n0_ : Aside0 (w21.heap[a0]? = some (.cells #[.int .i64 a0_0, .int .i64 a0_1, .int .i64 a0_2, .int .i64 a0_3] 44 (0, 0))) := ⟨h0_⟩
                  have n1_ : Aside0 (w21.heap[a2]? = some (.cells #[.int .i64 a1_0, .int .i64 a1_1, .int .i64 a1_2, .int .i64 a1_3] 44 (0, 0))) := ⟨h1_⟩
                  have n2_ : Aside0 (w21.heap[a5]? = some (.cells #[.int .i64 0, .int .i64 0, .int .i64 0, .int .i64 0] 44 (0, 0))) := ⟨h2_⟩
                  have n3_ : Aside0 (w.heap.size ≤ a5) := ⟨h3_⟩
                  have n4_ : Aside0 (w.heap.size ≤ a5) := ⟨h4_⟩
                  have n5_ : Aside0 (a0 ≠ a5) := ⟨h5_⟩
                  have n6_ : Aside0 (a5 ≠ a0) := ⟨h6_⟩
                  have n7_ : Aside0 (a2 ≠ a5) := ⟨h7_⟩
                  have n8_ : Aside0 (a5 ≠ a2) := ⟨h8_⟩
                  have n9_ : Aside0 (Below w.heap.size w w21) := ⟨h9_⟩
                  clear a1
                  clear a3
                  clear HB
                  clear h0_ h1_ h2_ h3_ h4_ h5_ h6_ h7_ h8_ h9_
                  have a1 := n0_
                  have a3 := n1_
                  have a7 := n2_
                  have f2 := n3_
                  have b9 := n4_
                  have b0 := n5_
                  have c4 := n6_
                  have b1 := n7_
                  have c5 := n8_
                  have HB := n9_
                  clear n0_ n1_ n2_ n3_ n4_ n5_ n6_ n7_ n8_ n9_
                  have hHeld : w21.cell? ⟨a0, 0, none⟩ = some (.int .i64 a0_0) ∧ w21.cell? ⟨a0, 1, none⟩ = some (.int .i64 a0_1) ∧ w21.cell? ⟨a0, 2, none⟩ = some (.int .i64 a0_2) ∧ w21.cell? ⟨a0, 3, none⟩ = some (.int .i64 a0_3) ∧ w21.cell? ⟨a2, 0, none⟩ = some (.int .i64 a1_0) ∧ w21.cell? ⟨a2, 1, none⟩ = some (.int .i64 a1_1) ∧ w21.cell? ⟨a2, 2, none⟩ = some (.int .i64 a1_2) ∧ w21.cell? ⟨a2, 3, none⟩ = some (.int .i64 a1_3) := hS_
                  refine norm_ (a' := ?_) ?_ ?_
                  rotate_left
                  ·simp only [putAll, Act.put, List.setIfInBounds_toArray, List.set_cons_zero, List.set_cons_succ]
                   rfl
                  refine two_ (i := 1) (j := 4) (Ni := some 14) (Nj := some 5) #[true, true, true, false, false, true, false, false] #[true, false, true, false, true, true, false, false] rfl rfl rfl rfl (two_of HT_.out (by kernel_rfl)) (by decide) (by decide) (fun K hK => ?_) (fun K hK => ?_)
                  ·skip
                   refine goes_ Tryd.func21 (by kernel_rfl) rfl #[.agg #[.int .i64 a0_0, .int .i64 a0_1, .int .i64 a0_2, .int .i64 a0_3]] (by rfl) rfl rfl (by (try simp only [List.map_toArray, List.map_cons, List.map_nil]); first | done | rfl | (simp only [List.length_drop, List.length_take]; rfl)) ?_
                   with_reducible refine (laws_rgFull.calls k a0_0 a0_1 a0_2 a0_3 b4 b5 b6 b7 _ A3.out).mono ?_
                   rintro e w22 ⟨rfl, hb⟩
                   refine ⟨_, rfl, ?_⟩
                   have n0_ := aM (bB (g := a0) (o := .cells #[.int .i64 a0_0, .int .i64 a0_1, .int .i64 a0_2, .int .i64 a0_3] 44 (0, 0)) (by (with_reducible repeat (first | refine bN ?_ _ | refine bD ?_ | refine bA ?_ _)); exact a1.out) hb)
                   have n1_ := aM (bB (g := a2) (o := .cells #[.int .i64 a1_0, .int .i64 a1_1, .int .i64 a1_2, .int .i64 a1_3] 44 (0, 0)) (by (with_reducible repeat (first | refine bN ?_ _ | refine bD ?_ | refine bA ?_ _)); exact a3.out) hb)
                   have n2_ := aM (bB (g := a5) (o := .cells #[.int .i64 0, .int .i64 0, .int .i64 0, .int .i64 0] 44 (0, 0)) (by (with_reducible repeat (first | refine bN ?_ _ | refine bD ?_ | refine bA ?_ _)); exact a7.out) hb)
                   have n3_ := aM (wP (by repeat (first | (with_reducible first | exact HB.out | apply wA | apply wN | apply wD | refine wS ?_ b2.out | refine wS ?_ b3.out | refine wS ?_ b9.out) | exact HB.out)) hb)
                   clear a1
                   clear a3
                   clear a7
                   clear HB
                   have a1 := n0_
                   have a3 := n1_
                   have a7 := n2_
                   have HB := n3_
                   clear n0_ n1_ n2_ n3_
                   (try clear hb)
                   (try clear hb2)
                   (try clear hk)
                   (try clear hi)
                   refine hK.out _ _ ⟨(blk_cell a1.out 0).trans rfl, (blk_cell a1.out 1).trans rfl, (blk_cell a1.out 2).trans rfl, (blk_cell a1.out 3).trans rfl, (blk_cell a3.out 0).trans rfl, (blk_cell a3.out 1).trans rfl, (blk_cell a3.out 2).trans rfl, (blk_cell a3.out 3).trans rfl⟩ (fun hHeld => ?_)
                   clear hK K
                   refine norm_ (a' := ?_) ?_ ?_
                   rotate_left
                   ·show Act.put _ (some 14) _ = _
                    simp only [Act.put, List.setIfInBounds_toArray, List.set_cons_zero, List.set_cons_succ, i64_w, i32_w]
                    rfl
                   exact norm_ (by first | (simp only [putAll, Act.put, List.setIfInBounds_toArray, List.set_cons_zero, List.set_cons_succ]; done) | (simp only [putAll, Act.put, List.setIfInBounds_toArray, List.set_cons_zero, List.set_cons_succ]; rfl)) (n1 (a5) _ ⟨hHeld, (by (with_reducible repeat (first | refine bN ?_ _ | refine bD ?_ | refine bA ?_ _)); exact a1.out), (by (with_reducible repeat (first | refine bN ?_ _ | refine bD ?_ | refine bA ?_ _)); exact a3.out), (by (with_reducible repeat (first | refine bN ?_ _ | refine bD ?_ | refine bA ?_ _)); exact a7.out), f2.out, b9.out, b0.out, c4.out, b1.out, c5.out, (by repeat (first | (with_reducible first | exact HB.out | apply wA | apply wN | apply wD | refine wS ?_ b2.out | refine wS ?_ b3.out | refine wS ?_ b9.out) | exact HB.out))⟩)
                  ·skip
                   refine box_step ?hg (N := 5) ?hd (cs := #[.int .i64 0, .int .i64 0, .int .i64 0, .int .i64 0]) (t := 44) ?hr ?_; (case hd => rfl); (case hg => rfl); (case hr => first | (go_simp; done) | (go_simp; rfl))
                   intro a4 hg w22 hbox hb
                   have n0_ := aM (bB (g := a0) (o := .cells #[.int .i64 a0_0, .int .i64 a0_1, .int .i64 a0_2, .int .i64 a0_3] 44 (0, 0)) (by (with_reducible repeat (first | refine bN ?_ _ | refine bD ?_ | refine bA ?_ _)); exact a1.out) hb)
                   have n1_ := aM (bB (g := a2) (o := .cells #[.int .i64 a1_0, .int .i64 a1_1, .int .i64 a1_2, .int .i64 a1_3] 44 (0, 0)) (by (with_reducible repeat (first | refine bN ?_ _ | refine bD ?_ | refine bA ?_ _)); exact a3.out) hb)
                   have n2_ := aM (bB (g := a5) (o := .cells #[.int .i64 0, .int .i64 0, .int .i64 0, .int .i64 0] 44 (0, 0)) (by (with_reducible repeat (first | refine bN ?_ _ | refine bD ?_ | refine bA ?_ _)); exact a7.out) hb)
                   have n3_ := aM (wP (by repeat (first | (with_reducible first | exact HB.out | apply wA | apply wN | apply wD | refine wS ?_ b2.out | refine wS ?_ b3.out | refine wS ?_ b9.out) | exact HB.out)) hb)
                   have n4_ := aM (hbox)
                   have n5_ := aM ((by rw [hg]; exact (below_size (by repeat (first | (with_reducible first | exact HB.out | apply wA | apply wN | apply wD | refine wS ?_ b2.out | refine wS ?_ b3.out | refine wS ?_ b9.out) | exact HB.out))) : w.heap.size ≤ a4))
                   have n6_ := aM ((by rw [hg]; exact (below_size (by repeat (first | (with_reducible first | exact HB.out | apply wA | apply wN | apply wD | refine wS ?_ b2.out | refine wS ?_ b3.out | refine wS ?_ b9.out) | exact HB.out))) : w.heap.size ≤ a4))
                   have n7_ := aM ((by rw [hg]; exact Nat.ne_of_lt (bL (g := a0) (o := .cells #[.int .i64 a0_0, .int .i64 a0_1, .int .i64 a0_2, .int .i64 a0_3] 44 (0, 0)) (by (with_reducible repeat (first | refine bN ?_ _ | refine bD ?_ | refine bA ?_ _)); exact a1.out)) : a0 ≠ a4))
                   have n8_ := aM ((by rw [hg]; exact Nat.ne_of_gt (bL (g := a0) (o := .cells #[.int .i64 a0_0, .int .i64 a0_1, .int .i64 a0_2, .int .i64 a0_3] 44 (0, 0)) (by (with_reducible repeat (first | refine bN ?_ _ | refine bD ?_ | refine bA ?_ _)); exact a1.out)) : a4 ≠ a0))
                   have n9_ := aM ((by rw [hg]; exact Nat.ne_of_lt (bL (g := a2) (o := .cells #[.int .i64 a1_0, .int .i64 a1_1, .int .i64 a1_2, .int .i64 a1_3] 44 (0, 0)) (by (with_reducible repeat (first | refine bN ?_ _ | refine bD ?_ | refine bA ?_ _)); exact a3.out)) : a2 ≠ a4))
                   have e7 := aM ((by rw [hg]; exact Nat.ne_of_gt (bL (g := a2) (o := .cells #[.int .i64 a1_0, .int .i64 a1_1, .int .i64 a1_2, .int .i64 a1_3] 44 (0, 0)) (by (with_reducible repeat (first | refine bN ?_ _ | refine bD ?_ | refine bA ?_ _)); exact a3.out)) : a4 ≠ a2))
                   have e8 := aM ((by rw [hg]; exact Nat.ne_of_lt (bL (g := a5) (o := .cells #[.int .i64 0, .int .i64 0, .int .i64 0, .int .i64 0] 44 (0, 0)) (by (with_reducible repeat (first | refine bN ?_ _ | refine bD ?_ | refine bA ?_ _)); exact a7.out)) : a5 ≠ a4))
                   have e9 := aM ((by rw [hg]; exact Nat.ne_of_gt (bL (g := a5) (o := .cells #[.int .i64 0, .int .i64 0, .int .i64 0, .int .i64 0] 44 (0, 0)) (by (with_reducible repeat (first | refine bN ?_ _ | refine bD ?_ | refine bA ?_ _)); exact a7.out)) : a4 ≠ a5))
                   clear a1
                   clear a3
                   clear a7
                   clear HB
                   have a1 := n0_
                   have a3 := n1_
                   have a7 := n2_
                   have HB := n3_
                   have a6 := n4_
                   have f1 := n5_
                   have b8 := n6_
                   have a8 := n7_
                   have c2 := n8_
                   have a9 := n9_
                   have c3 := e7
                   have c6 := e8
                   have c9 := e9
                   clear n0_ n1_ n2_ n3_ n4_ n5_ n6_ n7_ n8_ n9_ e7 e8 e9
                   clear hb hbox hg
                   refine hK.out _ _ ⟨(blk_cell a1.out 0).trans rfl, (blk_cell a1.out 1).trans rfl, (blk_cell a1.out 2).trans rfl, (blk_cell a1.out 3).trans rfl, (blk_cell a3.out 0).trans rfl, (blk_cell a3.out 1).trans rfl, (blk_cell a3.out 2).trans rfl, (blk_cell a3.out 3).trans rfl⟩ (fun hHeld => ?_)
                   clear hK K
                   refine norm_ (a' := ?_) ?_ ?_
                   rotate_left
                   ·show Act.put _ (some 5) _ = _
                    simp only [Act.put, List.setIfInBounds_toArray, List.set_cons_zero, List.set_cons_succ, i64_w, i32_w]
                    rfl
                   exact norm_ (by first | (simp only [putAll, Act.put, List.setIfInBounds_toArray, List.set_cons_zero, List.set_cons_succ]; done) | (simp only [putAll, Act.put, List.setIfInBounds_toArray, List.set_cons_zero, List.set_cons_succ]; rfl)) (n2 (a4, a5) _ ⟨hHeld, (by (with_reducible repeat (first | refine bN ?_ _ | refine bD ?_ | refine bA ?_ _)); exact a1.out), (by (with_reducible repeat (first | refine bN ?_ _ | refine bD ?_ | refine bA ?_ _)); exact a3.out), (by (with_reducible repeat (first | refine bN ?_ _ | refine bD ?_ | refine bA ?_ _)); exact a6.out), (by (with_reducible repeat (first | refine bN ?_ _ | refine bD ?_ | refine bA ?_ _)); exact a7.out), f1.out, b8.out, a8.out, c2.out, a9.out, c3.out, c6.out, c9.out, f2.out, b9.out, b0.out, c4.out, b1.out, c5.out, (by repeat (first | (with_reducible first | exact HB.out | apply wA | apply wN | apply wD | refine wS ?_ b2.out | refine wS ?_ b3.out | refine wS ?_ b9.out | refine wS ?_ b8.out) | exact HB.out))⟩)
                ·skip
                 rintro a4 w21 ⟨hS_, h0_, h1_, h2_, h3_, h4_, h5_, h6_, h7_, h8_, h9_⟩
                 have n0_ : Aside0 (w21.heap[a0]? = some (.cells #[.int .i64 a0_0, .int .i64 a0_1, .int .i64 a0_2, .int .i64 a0_3] 44 (0, 0))) := ⟨h0_⟩
                 have n1_ : Aside0 (w21.heap[a2]? = some (.cells #[.int .i64 a1_0, .int .i64 a1_1, .int .i64 a1_2, .int .i64 a1_3] 44 (0, 0))) := ⟨h1_⟩
                 have n2_ : Aside0 (w21.heap[a4]? = some (.cells #[.int .i64 0, .int .i64 0, .int .i64 0, .int .i64 0] 44 (0, 0))) := ⟨h2_⟩
                 have n3_ : Aside0 (w.heap.size ≤ a4) := ⟨h3_⟩
                 have n4_ : Aside0 (w.heap.size ≤ a4) := ⟨h4_⟩
                 have n5_ : Aside0 (a0 ≠ a4) := ⟨h5_⟩
                 have n6_ : Aside0 (a4 ≠ a0) := ⟨h6_⟩
                 have n7_ : Aside0 (a2 ≠ a4) := ⟨h7_⟩
                 have n8_ : Aside0 (a4 ≠ a2) := ⟨h8_⟩
                 have n9_ : Aside0 (Below w.heap.size w w21) := ⟨h9_⟩
                 clear a1
                 clear a3
                 clear HB
                 clear h0_ h1_ h2_ h3_ h4_ h5_ h6_ h7_ h8_ h9_
                 have a1 := n0_
                 have a3 := n1_
                 have a6 := n2_
                 have f1 := n3_
                 have b8 := n4_
                 have a8 := n5_
                 have c2 := n6_
                 have a9 := n7_
                 have c3 := n8_
                 have HB := n9_
                 clear n0_ n1_ n2_ n3_ n4_ n5_ n6_ n7_ n8_ n9_
                 have hHeld : w21.cell? ⟨a0, 0, none⟩ = some (.int .i64 a0_0) ∧ w21.cell? ⟨a0, 1, none⟩ = some (.int .i64 a0_1) ∧ w21.cell? ⟨a0, 2, none⟩ = some (.int .i64 a0_2) ∧ w21.cell? ⟨a0, 3, none⟩ = some (.int .i64 a0_3) ∧ w21.cell? ⟨a2, 0, none⟩ = some (.int .i64 a1_0) ∧ w21.cell? ⟨a2, 1, none⟩ = some (.int .i64 a1_1) ∧ w21.cell? ⟨a2, 2, none⟩ = some (.int .i64 a1_2) ∧ w21.cell? ⟨a2, 3, none⟩ = some (.int .i64 a1_3) := hS_
                 refine norm_ (a' := ?_) ?_ ?_
                 rotate_left
                 ·simp only [putAll, Act.put, List.setIfInBounds_toArray, List.set_cons_zero, List.set_cons_succ]
                  rfl
                 refine two_ (i := 1) (j := 5) (Ni := some 14) (Nj := some 6) #[true, true, true, false, true, false, false, false] #[true, false, true, false, true, true, false, false] rfl rfl rfl rfl (two_of HT_.out (by kernel_rfl)) (by decide) (by decide) (fun K hK => ?_) (fun K hK => ?_)
                 ·skip
                  refine goes_ Tryd.func21 (by kernel_rfl) rfl #[.agg #[.int .i64 a0_0, .int .i64 a0_1, .int .i64 a0_2, .int .i64 a0_3]] (by rfl) rfl rfl (by (try simp only [List.map_toArray, List.map_cons, List.map_nil]); first | done | rfl | (simp only [List.length_drop, List.length_take]; rfl)) ?_
                  with_reducible refine (laws_rgFull.calls k a0_0 a0_1 a0_2 a0_3 b4 b5 b6 b7 _ A3.out).mono ?_
                  rintro e w22 ⟨rfl, hb⟩
                  refine ⟨_, rfl, ?_⟩
                  have n0_ := aM (bB (g := a0) (o := .cells #[.int .i64 a0_0, .int .i64 a0_1, .int .i64 a0_2, .int .i64 a0_3] 44 (0, 0)) (by (with_reducible repeat (first | refine bN ?_ _ | refine bD ?_ | refine bA ?_ _)); exact a1.out) hb)
                  have n1_ := aM (bB (g := a2) (o := .cells #[.int .i64 a1_0, .int .i64 a1_1, .int .i64 a1_2, .int .i64 a1_3] 44 (0, 0)) (by (with_reducible repeat (first | refine bN ?_ _ | refine bD ?_ | refine bA ?_ _)); exact a3.out) hb)
                  have n2_ := aM (bB (g := a4) (o := .cells #[.int .i64 0, .int .i64 0, .int .i64 0, .int .i64 0] 44 (0, 0)) (by (with_reducible repeat (first | refine bN ?_ _ | refine bD ?_ | refine bA ?_ _)); exact a6.out) hb)
                  have n3_ := aM (wP (by repeat (first | (with_reducible first | exact HB.out | apply wA | apply wN | apply wD | refine wS ?_ b2.out | refine wS ?_ b3.out | refine wS ?_ b8.out) | exact HB.out)) hb)
                  clear a1
                  clear a3
                  clear a6
                  clear HB
                  have a1 := n0_
                  have a3 := n1_
                  have a6 := n2_
                  have HB := n3_
                  clear n0_ n1_ n2_ n3_
                  (try clear hb)
                  (try clear hb2)
                  (try clear hk)
                  (try clear hi)
                  refine hK.out _ _ ⟨(blk_cell a1.out 0).trans rfl, (blk_cell a1.out 1).trans rfl, (blk_cell a1.out 2).trans rfl, (blk_cell a1.out 3).trans rfl, (blk_cell a3.out 0).trans rfl, (blk_cell a3.out 1).trans rfl, (blk_cell a3.out 2).trans rfl, (blk_cell a3.out 3).trans rfl⟩ (fun hHeld => ?_)
                  clear hK K
                  refine norm_ (a' := ?_) ?_ ?_
                  rotate_left
                  ·show Act.put _ (some 14) _ = _
                   simp only [Act.put, List.setIfInBounds_toArray, List.set_cons_zero, List.set_cons_succ, i64_w, i32_w]
                   rfl
                  exact norm_ (by first | (simp only [putAll, Act.put, List.setIfInBounds_toArray, List.set_cons_zero, List.set_cons_succ]; done) | (simp only [putAll, Act.put, List.setIfInBounds_toArray, List.set_cons_zero, List.set_cons_succ]; rfl)) (n0 (a4) _ ⟨hHeld, (by (with_reducible repeat (first | refine bN ?_ _ | refine bD ?_ | refine bA ?_ _)); exact a1.out), (by (with_reducible repeat (first | refine bN ?_ _ | refine bD ?_ | refine bA ?_ _)); exact a3.out), (by (with_reducible repeat (first | refine bN ?_ _ | refine bD ?_ | refine bA ?_ _)); exact a6.out), f1.out, b8.out, a8.out, c2.out, a9.out, c3.out, (by repeat (first | (with_reducible first | exact HB.out | apply wA | apply wN | apply wD | refine wS ?_ b2.out | refine wS ?_ b3.out | refine wS ?_ b8.out) | exact HB.out))⟩)
                 ·skip
                  refine box_step ?hg (N := 6) ?hd (cs := #[.int .i64 0, .int .i64 0, .int .i64 0, .int .i64 0]) (t := 44) ?hr ?_; (case hd => rfl); (case hg => rfl); (case hr => first | (go_simp; done) | (go_simp; rfl))
                  intro a5 hg w22 hbox hb
                  have n0_ := aM (bB (g := a0) (o := .cells #[.int .i64 a0_0, .int .i64 a0_1, .int .i64 a0_2, .int .i64 a0_3] 44 (0, 0)) (by (with_reducible repeat (first | refine bN ?_ _ | refine bD ?_ | refine bA ?_ _)); exact a1.out) hb)
                  have n1_ := aM (bB (g := a2) (o := .cells #[.int .i64 a1_0, .int .i64 a1_1, .int .i64 a1_2, .int .i64 a1_3] 44 (0, 0)) (by (with_reducible repeat (first | refine bN ?_ _ | refine bD ?_ | refine bA ?_ _)); exact a3.out) hb)
                  have n2_ := aM (bB (g := a4) (o := .cells #[.int .i64 0, .int .i64 0, .int .i64 0, .int .i64 0] 44 (0, 0)) (by (with_reducible repeat (first | refine bN ?_ _ | refine bD ?_ | refine bA ?_ _)); exact a6.out) hb)
                  have n3_ := aM (wP (by repeat (first | (with_reducible first | exact HB.out | apply wA | apply wN | apply wD | refine wS ?_ b2.out | refine wS ?_ b3.out | refine wS ?_ b8.out) | exact HB.out)) hb)
                  have n4_ := aM (hbox)
                  have n5_ := aM ((by rw [hg]; exact (below_size (by repeat (first | (with_reducible first | exact HB.out | apply wA | apply wN | apply wD | refine wS ?_ b2.out | refine wS ?_ b3.out | refine wS ?_ b8.out) | exact HB.out))) : w.heap.size ≤ a5))
                  have n6_ := aM ((by rw [hg]; exact (below_size (by repeat (first | (with_reducible first | exact HB.out | apply wA | apply wN | apply wD | refine wS ?_ b2.out | refine wS ?_ b3.out | refine wS ?_ b8.out) | exact HB.out))) : w.heap.size ≤ a5))
                  have n7_ := aM ((by rw [hg]; exact Nat.ne_of_lt (bL (g := a0) (o := .cells #[.int .i64 a0_0, .int .i64 a0_1, .int .i64 a0_2, .int .i64 a0_3] 44 (0, 0)) (by (with_reducible repeat (first | refine bN ?_ _ | refine bD ?_ | refine bA ?_ _)); exact a1.out)) : a0 ≠ a5))
                  have n8_ := aM ((by rw [hg]; exact Nat.ne_of_gt (bL (g := a0) (o := .cells #[.int .i64 a0_0, .int .i64 a0_1, .int .i64 a0_2, .int .i64 a0_3] 44 (0, 0)) (by (with_reducible repeat (first | refine bN ?_ _ | refine bD ?_ | refine bA ?_ _)); exact a1.out)) : a5 ≠ a0))
                  have n9_ := aM ((by rw [hg]; exact Nat.ne_of_lt (bL (g := a2) (o := .cells #[.int .i64 a1_0, .int .i64 a1_1, .int .i64 a1_2, .int .i64 a1_3] 44 (0, 0)) (by (with_reducible repeat (first | refine bN ?_ _ | refine bD ?_ | refine bA ?_ _)); exact a3.out)) : a2 ≠ a5))
                  have e7 := aM ((by rw [hg]; exact Nat.ne_of_gt (bL (g := a2) (o := .cells #[.int .i64 a1_0, .int .i64 a1_1, .int .i64 a1_2, .int .i64 a1_3] 44 (0, 0)) (by (with_reducible repeat (first | refine bN ?_ _ | refine bD ?_ | refine bA ?_ _)); exact a3.out)) : a5 ≠ a2))
                  have e8 := aM ((by rw [hg]; exact Nat.ne_of_lt (bL (g := a4) (o := .cells #[.int .i64 0, .int .i64 0, .int .i64 0, .int .i64 0] 44 (0, 0)) (by (with_reducible repeat (first | refine bN ?_ _ | refine bD ?_ | refine bA ?_ _)); exact a6.out)) : a4 ≠ a5))
                  have e9 := aM ((by rw [hg]; exact Nat.ne_of_gt (bL (g := a4) (o := .cells #[.int .i64 0, .int .i64 0, .int .i64 0, .int .i64 0] 44 (0, 0)) (by (with_reducible repeat (first | refine bN ?_ _ | refine bD ?_ | refine bA ?_ _)); exact a6.out)) : a5 ≠ a4))
                  clear a1
                  clear a3
                  clear a6
                  clear HB
                  have a1 := n0_
                  have a3 := n1_
                  have a6 := n2_
                  have HB := n3_
                  have a7 := n4_
                  have f2 := n5_
                  have b9 := n6_
                  have b0 := n7_
                  have c4 := n8_
                  have b1 := n9_
                  have c5 := e7
                  have c9 := e8
                  have c6 := e9
                  clear n0_ n1_ n2_ n3_ n4_ n5_ n6_ n7_ n8_ n9_ e7 e8 e9
                  clear hb hbox hg
                  refine hK.out _ _ ⟨(blk_cell a1.out 0).trans rfl, (blk_cell a1.out 1).trans rfl, (blk_cell a1.out 2).trans rfl, (blk_cell a1.out 3).trans rfl, (blk_cell a3.out 0).trans rfl, (blk_cell a3.out 1).trans rfl, (blk_cell a3.out 2).trans rfl, (blk_cell a3.out 3).trans rfl⟩ (fun hHeld => ?_)
                  clear hK K
                  refine norm_ (a' := ?_) ?_ ?_
                  rotate_left
                  ·show Act.put _ (some 6) _ = _
                   simp only [Act.put, List.setIfInBounds_toArray, List.set_cons_zero, List.set_cons_succ, i64_w, i32_w]
                   rfl
                  exact norm_ (by first | (simp only [putAll, Act.put, List.setIfInBounds_toArray, List.set_cons_zero, List.set_cons_succ]; done) | (simp only [putAll, Act.put, List.setIfInBounds_toArray, List.set_cons_zero, List.set_cons_succ]; rfl)) (n2 (a4, a5) _ ⟨hHeld, (by (with_reducible repeat (first | refine bN ?_ _ | refine bD ?_ | refine bA ?_ _)); exact a1.out), (by (with_reducible repeat (first | refine bN ?_ _ | refine bD ?_ | refine bA ?_ _)); exact a3.out), (by (with_reducible repeat (first | refine bN ?_ _ | refine bD ?_ | refine bA ?_ _)); exact a6.out), (by (with_reducible repeat (first | refine bN ?_ _ | refine bD ?_ | refine bA ?_ _)); exact a7.out), f1.out, b8.out, a8.out, c2.out, a9.out, c3.out, c6.out, c9.out, f2.out, b9.out, b0.out, c4.out, b1.out, c5.out, (by repeat (first | (with_reducible first | exact HB.out | apply wA | apply wN | apply wD | refine wS ?_ b2.out | refine wS ?_ b3.out | refine wS ?_ b8.out | refine wS ?_ b9.out) | exact HB.out))⟩)
               ·skip
                rintro _ w21 ⟨hS_, h0_, h1_, h2_⟩
                have n0_ : Aside0 (w21.heap[a0]? = some (.cells #[.int .i64 a0_0, .int .i64 a0_1, .int .i64 a0_2, .int .i64 a0_3] 44 (0, 0))) := ⟨h0_⟩
                have n1_ : Aside0 (w21.heap[a2]? = some (.cells #[.int .i64 a1_0, .int .i64 a1_1, .int .i64 a1_2, .int .i64 a1_3] 44 (0, 0))) := ⟨h1_⟩
                have n2_ : Aside0 (Below w.heap.size w w21) := ⟨h2_⟩
                clear a1
                clear a3
                clear HB
                clear h0_ h1_ h2_
                have a1 := n0_
                have a3 := n1_
                have HB := n2_
                clear n0_ n1_ n2_
                have hHeld : w21.cell? ⟨a0, 0, none⟩ = some (.int .i64 a0_0) ∧ w21.cell? ⟨a0, 1, none⟩ = some (.int .i64 a0_1) ∧ w21.cell? ⟨a0, 2, none⟩ = some (.int .i64 a0_2) ∧ w21.cell? ⟨a0, 3, none⟩ = some (.int .i64 a0_3) ∧ w21.cell? ⟨a2, 0, none⟩ = some (.int .i64 a1_0) ∧ w21.cell? ⟨a2, 1, none⟩ = some (.int .i64 a1_1) ∧ w21.cell? ⟨a2, 2, none⟩ = some (.int .i64 a1_2) ∧ w21.cell? ⟨a2, 3, none⟩ = some (.int .i64 a1_3) := hS_
                refine norm_ (a' := ?_) ?_ ?_
                rotate_left
                ·simp only [putAll, Act.put, List.setIfInBounds_toArray, List.set_cons_zero, List.set_cons_succ]
                 rfl
                refine three_ (i := 3) (j := 4) (k := 5) (Ni := some 16) (Nj := some 5) (Nk := some 6) #[true, true, true, true, false, false, false, false] #[true, true, true, false, true, false, false, false] #[true, true, true, false, false, true, false, false] rfl rfl rfl rfl rfl rfl (three_of HT_.out (by kernel_rfl)) (by decide) (by decide) (by decide) (fun K hK => ?_) (fun K hK => ?_) (fun K hK => ?_)
                ·skip
                 refine goes_ Tryd.func21 (by kernel_rfl) rfl #[.agg #[.int .i64 a1_0, .int .i64 a1_1, .int .i64 a1_2, .int .i64 a1_3]] (by rfl) rfl rfl (by (try simp only [List.map_toArray, List.map_cons, List.map_nil]); first | done | rfl | (simp only [List.length_drop, List.length_take]; rfl)) ?_
                 with_reducible refine (laws_rgFull.calls k a1_0 a1_1 a1_2 a1_3 d3 d4 d5 d6 _ A4.out).mono ?_
                 rintro e w22 ⟨rfl, hb⟩
                 refine ⟨_, rfl, ?_⟩
                 have n0_ := aM (bB (g := a0) (o := .cells #[.int .i64 a0_0, .int .i64 a0_1, .int .i64 a0_2, .int .i64 a0_3] 44 (0, 0)) (by (with_reducible repeat (first | refine bN ?_ _ | refine bD ?_ | refine bA ?_ _)); exact a1.out) hb)
                 have n1_ := aM (bB (g := a2) (o := .cells #[.int .i64 a1_0, .int .i64 a1_1, .int .i64 a1_2, .int .i64 a1_3] 44 (0, 0)) (by (with_reducible repeat (first | refine bN ?_ _ | refine bD ?_ | refine bA ?_ _)); exact a3.out) hb)
                 have n2_ := aM (wP (by repeat (first | (with_reducible first | exact HB.out | apply wA | apply wN | apply wD | refine wS ?_ b2.out | refine wS ?_ b3.out) | exact HB.out)) hb)
                 clear a1
                 clear a3
                 clear HB
                 have a1 := n0_
                 have a3 := n1_
                 have HB := n2_
                 clear n0_ n1_ n2_
                 (try clear hb)
                 (try clear hb2)
                 (try clear hk)
                 (try clear hi)
                 refine hK.out _ _ ⟨(blk_cell a1.out 0).trans rfl, (blk_cell a1.out 1).trans rfl, (blk_cell a1.out 2).trans rfl, (blk_cell a1.out 3).trans rfl, (blk_cell a3.out 0).trans rfl, (blk_cell a3.out 1).trans rfl, (blk_cell a3.out 2).trans rfl, (blk_cell a3.out 3).trans rfl⟩ (fun hHeld => ?_)
                 clear hK K
                 refine norm_ (a' := ?_) ?_ ?_
                 rotate_left
                 ·show Act.put _ (some 16) _ = _
                  simp only [Act.put, List.setIfInBounds_toArray, List.set_cons_zero, List.set_cons_succ, i64_w, i32_w]
                  rfl
                 exact norm_ (by first | (simp only [putAll, Act.put, List.setIfInBounds_toArray, List.set_cons_zero, List.set_cons_succ]; done) | (simp only [putAll, Act.put, List.setIfInBounds_toArray, List.set_cons_zero, List.set_cons_succ]; rfl)) (n7 () _ ⟨hHeld, (by (with_reducible repeat (first | refine bN ?_ _ | refine bD ?_ | refine bA ?_ _)); exact a1.out), (by (with_reducible repeat (first | refine bN ?_ _ | refine bD ?_ | refine bA ?_ _)); exact a3.out), (by repeat (first | (with_reducible first | exact HB.out | apply wA | apply wN | apply wD | refine wS ?_ b2.out | refine wS ?_ b3.out) | exact HB.out))⟩)
                ·skip
                 refine box_step ?hg (N := 5) ?hd (cs := #[.int .i64 0, .int .i64 0, .int .i64 0, .int .i64 0]) (t := 44) ?hr ?_; (case hd => rfl); (case hg => rfl); (case hr => first | (go_simp; done) | (go_simp; rfl))
                 intro a4 hg w22 hbox hb
                 have n0_ := aM (bB (g := a0) (o := .cells #[.int .i64 a0_0, .int .i64 a0_1, .int .i64 a0_2, .int .i64 a0_3] 44 (0, 0)) (by (with_reducible repeat (first | refine bN ?_ _ | refine bD ?_ | refine bA ?_ _)); exact a1.out) hb)
                 have n1_ := aM (bB (g := a2) (o := .cells #[.int .i64 a1_0, .int .i64 a1_1, .int .i64 a1_2, .int .i64 a1_3] 44 (0, 0)) (by (with_reducible repeat (first | refine bN ?_ _ | refine bD ?_ | refine bA ?_ _)); exact a3.out) hb)
                 have n2_ := aM (wP (by repeat (first | (with_reducible first | exact HB.out | apply wA | apply wN | apply wD | refine wS ?_ b2.out | refine wS ?_ b3.out) | exact HB.out)) hb)
                 have n3_ := aM (hbox)
                 have n4_ := aM ((by rw [hg]; exact (below_size (by repeat (first | (with_reducible first | exact HB.out | apply wA | apply wN | apply wD | refine wS ?_ b2.out | refine wS ?_ b3.out) | exact HB.out))) : w.heap.size ≤ a4))
                 have n5_ := aM ((by rw [hg]; exact (below_size (by repeat (first | (with_reducible first | exact HB.out | apply wA | apply wN | apply wD | refine wS ?_ b2.out | refine wS ?_ b3.out) | exact HB.out))) : w.heap.size ≤ a4))
                 have n6_ := aM ((by rw [hg]; exact Nat.ne_of_lt (bL (g := a0) (o := .cells #[.int .i64 a0_0, .int .i64 a0_1, .int .i64 a0_2, .int .i64 a0_3] 44 (0, 0)) (by (with_reducible repeat (first | refine bN ?_ _ | refine bD ?_ | refine bA ?_ _)); exact a1.out)) : a0 ≠ a4))
                 have n7_ := aM ((by rw [hg]; exact Nat.ne_of_gt (bL (g := a0) (o := .cells #[.int .i64 a0_0, .int .i64 a0_1, .int .i64 a0_2, .int .i64 a0_3] 44 (0, 0)) (by (with_reducible repeat (first | refine bN ?_ _ | refine bD ?_ | refine bA ?_ _)); exact a1.out)) : a4 ≠ a0))
                 have n8_ := aM ((by rw [hg]; exact Nat.ne_of_lt (bL (g := a2) (o := .cells #[.int .i64 a1_0, .int .i64 a1_1, .int .i64 a1_2, .int .i64 a1_3] 44 (0, 0)) (by (with_reducible repeat (first | refine bN ?_ _ | refine bD ?_ | refine bA ?_ _)); exact a3.out)) : a2 ≠ a4))
                 have n9_ := aM ((by rw [hg]; exact Nat.ne_of_gt (bL (g := a2) (o := .cells #[.int .i64 a1_0, .int .i64 a1_1, .int .i64 a1_2, .int .i64 a1_3] 44 (0, 0)) (by (with_reducible repeat (first | refine bN ?_ _ | refine bD ?_ | refine bA ?_ _)); exact a3.out)) : a4 ≠ a2))
                 clear a1
                 clear a3
                 clear HB
                 have a1 := n0_
                 have a3 := n1_
                 have HB := n2_
                 have a6 := n3_
                 have f1 := n4_
                 have b8 := n5_
                 have a8 := n6_
                 have c2 := n7_
                 have a9 := n8_
                 have c3 := n9_
                 clear n0_ n1_ n2_ n3_ n4_ n5_ n6_ n7_ n8_ n9_
                 clear hb hbox hg
                 refine hK.out _ _ ⟨(blk_cell a1.out 0).trans rfl, (blk_cell a1.out 1).trans rfl, (blk_cell a1.out 2).trans rfl, (blk_cell a1.out 3).trans rfl, (blk_cell a3.out 0).trans rfl, (blk_cell a3.out 1).trans rfl, (blk_cell a3.out 2).trans rfl, (blk_cell a3.out 3).trans rfl⟩ (fun hHeld => ?_)
                 clear hK K
                 refine norm_ (a' := ?_) ?_ ?_
                 rotate_left
                 ·show Act.put _ (some 5) _ = _
                  simp only [Act.put, List.setIfInBounds_toArray, List.set_cons_zero, List.set_cons_succ, i64_w, i32_w]
                  rfl
                 exact norm_ (by first | (simp only [putAll, Act.put, List.setIfInBounds_toArray, List.set_cons_zero, List.set_cons_succ]; done) | (simp only [putAll, Act.put, List.setIfInBounds_toArray, List.set_cons_zero, List.set_cons_succ]; rfl)) (n0 (a4) _ ⟨hHeld, (by (with_reducible repeat (first | refine bN ?_ _ | refine bD ?_ | refine bA ?_ _)); exact a1.out), (by (with_reducible repeat (first | refine bN ?_ _ | refine bD ?_ | refine bA ?_ _)); exact a3.out), (by (with_reducible repeat (first | refine bN ?_ _ | refine bD ?_ | refine bA ?_ _)); exact a6.out), f1.out, b8.out, a8.out, c2.out, a9.out, c3.out, (by repeat (first | (with_reducible first | exact HB.out | apply wA | apply wN | apply wD | refine wS ?_ b2.out | refine wS ?_ b3.out | refine wS ?_ b8.out) | exact HB.out))⟩)
                ·skip
                 refine box_step ?hg (N := 6) ?hd (cs := #[.int .i64 0, .int .i64 0, .int .i64 0, .int .i64 0]) (t := 44) ?hr ?_; (case hd => rfl); (case hg => rfl); (case hr => first | (go_simp; done) | (go_simp; rfl))
                 intro a5 hg w22 hbox hb
                 have n0_ := aM (bB (g := a0) (o := .cells #[.int .i64 a0_0, .int .i64 a0_1, .int .i64 a0_2, .int .i64 a0_3] 44 (0, 0)) (by (with_reducible repeat (first | refine bN ?_ _ | refine bD ?_ | refine bA ?_ _)); exact a1.out) hb)
                 have n1_ := aM (bB (g := a2) (o := .cells #[.int .i64 a1_0, .int .i64 a1_1, .int .i64 a1_2, .int .i64 a1_3] 44 (0, 0)) (by (with_reducible repeat (first | refine bN ?_ _ | refine bD ?_ | refine bA ?_ _)); exact a3.out) hb)
                 have n2_ := aM (wP (by repeat (first | (with_reducible first | exact HB.out | apply wA | apply wN | apply wD | refine wS ?_ b2.out | refine wS ?_ b3.out) | exact HB.out)) hb)
                 have n3_ := aM (hbox)
                 have n4_ := aM ((by rw [hg]; exact (below_size (by repeat (first | (with_reducible first | exact HB.out | apply wA | apply wN | apply wD | refine wS ?_ b2.out | refine wS ?_ b3.out) | exact HB.out))) : w.heap.size ≤ a5))
                 have n5_ := aM ((by rw [hg]; exact (below_size (by repeat (first | (with_reducible first | exact HB.out | apply wA | apply wN | apply wD | refine wS ?_ b2.out | refine wS ?_ b3.out) | exact HB.out))) : w.heap.size ≤ a5))
                 have n6_ := aM ((by rw [hg]; exact Nat.ne_of_lt (bL (g := a0) (o := .cells #[.int .i64 a0_0, .int .i64 a0_1, .int .i64 a0_2, .int .i64 a0_3] 44 (0, 0)) (by (with_reducible repeat (first | refine bN ?_ _ | refine bD ?_ | refine bA ?_ _)); exact a1.out)) : a0 ≠ a5))
                 have n7_ := aM ((by rw [hg]; exact Nat.ne_of_gt (bL (g := a0) (o := .cells #[.int .i64 a0_0, .int .i64 a0_1, .int .i64 a0_2, .int .i64 a0_3] 44 (0, 0)) (by (with_reducible repeat (first | refine bN ?_ _ | refine bD ?_ | refine bA ?_ _)); exact a1.out)) : a5 ≠ a0))
                 have n8_ := aM ((by rw [hg]; exact Nat.ne_of_lt (bL (g := a2) (o := .cells #[.int .i64 a1_0, .int .i64 a1_1, .int .i64 a1_2, .int .i64 a1_3] 44 (0, 0)) (by (with_reducible repeat (first | refine bN ?_ _ | refine bD ?_ | refine bA ?_ _)); exact a3.out)) : a2 ≠ a5))
                 have n9_ := aM ((by rw [hg]; exact Nat.ne_of_gt (bL (g := a2) (o := .cells #[.int .i64 a1_0, .int .i64 a1_1, .int .i64 a1_2, .int .i64 a1_3] 44 (0, 0)) (by (with_reducible repeat (first | refine bN ?_ _ | refine bD ?_ | refine bA ?_ _)); exact a3.out)) : a5 ≠ a2))
                 clear a1
                 clear a3
                 clear HB
                 have a1 := n0_
                 have a3 := n1_
                 have HB := n2_
                 have a7 := n3_
                 have f2 := n4_
                 have b9 := n5_
                 have b0 := n6_
                 have c4 := n7_
                 have b1 := n8_
                 have c5 := n9_
                 clear n0_ n1_ n2_ n3_ n4_ n5_ n6_ n7_ n8_ n9_
                 clear hb hbox hg
                 refine hK.out _ _ ⟨(blk_cell a1.out 0).trans rfl, (blk_cell a1.out 1).trans rfl, (blk_cell a1.out 2).trans rfl, (blk_cell a1.out 3).trans rfl, (blk_cell a3.out 0).trans rfl, (blk_cell a3.out 1).trans rfl, (blk_cell a3.out 2).trans rfl, (blk_cell a3.out 3).trans rfl⟩ (fun hHeld => ?_)
                 clear hK K
                 refine norm_ (a' := ?_) ?_ ?_
                 rotate_left
                 ·show Act.put _ (some 6) _ = _
                  simp only [Act.put, List.setIfInBounds_toArray, List.set_cons_zero, List.set_cons_succ, i64_w, i32_w]
                  rfl
                 exact norm_ (by first | (simp only [putAll, Act.put, List.setIfInBounds_toArray, List.set_cons_zero, List.set_cons_succ]; done) | (simp only [putAll, Act.put, List.setIfInBounds_toArray, List.set_cons_zero, List.set_cons_succ]; rfl)) (n1 (a5) _ ⟨hHeld, (by (with_reducible repeat (first | refine bN ?_ _ | refine bD ?_ | refine bA ?_ _)); exact a1.out), (by (with_reducible repeat (first | refine bN ?_ _ | refine bD ?_ | refine bA ?_ _)); exact a3.out), (by (with_reducible repeat (first | refine bN ?_ _ | refine bD ?_ | refine bA ?_ _)); exact a7.out), f2.out, b9.out, b0.out, c4.out, b1.out, c5.out, (by repeat (first | (with_reducible first | exact HB.out | apply wA | apply wN | apply wD | refine wS ?_ b2.out | refine wS ?_ b3.out | refine wS ?_ b9.out) | exact HB.out))⟩)
              ·skip
               rintro ⟨a4, a5⟩ w22 ⟨hS_, h0_, h1_, h2_, h3_, h4_, h5_, h6_, h7_, h8_, h9_, j1, j2, j3, j4, j5, j6, j7, j8, j9⟩
               have n0_ : Aside0 (w22.heap[a0]? = some (.cells #[.int .i64 a0_0, .int .i64 a0_1, .int .i64 a0_2, .int .i64 a0_3] 44 (0, 0))) := ⟨h0_⟩
               have n1_ : Aside0 (w22.heap[a2]? = some (.cells #[.int .i64 a1_0, .int .i64 a1_1, .int .i64 a1_2, .int .i64 a1_3] 44 (0, 0))) := ⟨h1_⟩
               have n2_ : Aside0 (w22.heap[a4]? = some (.cells #[.int .i64 0, .int .i64 0, .int .i64 0, .int .i64 0] 44 (0, 0))) := ⟨h2_⟩
               have n3_ : Aside0 (w22.heap[a5]? = some (.cells #[.int .i64 0, .int .i64 0, .int .i64 0, .int .i64 0] 44 (0, 0))) := ⟨h3_⟩
               have n4_ : Aside0 (w.heap.size ≤ a4) := ⟨h4_⟩
               have n5_ : Aside0 (w.heap.size ≤ a4) := ⟨h5_⟩
               have n6_ : Aside0 (a0 ≠ a4) := ⟨h6_⟩
               have n7_ : Aside0 (a4 ≠ a0) := ⟨h7_⟩
               have n8_ : Aside0 (a2 ≠ a4) := ⟨h8_⟩
               have n9_ : Aside0 (a4 ≠ a2) := ⟨h9_⟩
               have e7 : Aside0 (a5 ≠ a4) := ⟨j1⟩
               have e8 : Aside0 (a4 ≠ a5) := ⟨j2⟩
               have e9 : Aside0 (w.heap.size ≤ a5) := ⟨j3⟩
               have g4 : Aside0 (w.heap.size ≤ a5) := ⟨j4⟩
               have g5 : Aside0 (a0 ≠ a5) := ⟨j5⟩
               have g6 : Aside0 (a5 ≠ a0) := ⟨j6⟩
               have h7 : Aside0 (a2 ≠ a5) := ⟨j7⟩
               have h8 : Aside0 (a5 ≠ a2) := ⟨j8⟩
               have h9 : Aside0 (Below w.heap.size w w22) := ⟨j9⟩
               clear a1
               clear a3
               clear HB
               clear h0_ h1_ h2_ h3_ h4_ h5_ h6_ h7_ h8_ h9_ j1 j2 j3 j4 j5 j6 j7 j8 j9
               have a1 := n0_
               have a3 := n1_
               have a6 := n2_
               have a7 := n3_
               have f1 := n4_
               have b8 := n5_
               have a8 := n6_
               have c2 := n7_
               have a9 := n8_
               have c3 := n9_
               have c6 := e7
               have c9 := e8
               have f2 := e9
               have b9 := g4
               have b0 := g5
               have c4 := g6
               have b1 := h7
               have c5 := h8
               have HB := h9
               clear n0_ n1_ n2_ n3_ n4_ n5_ n6_ n7_ n8_ n9_ e7 e8 e9 g4 g5 g6 h7 h8 h9
               have hHeld : w22.cell? ⟨a0, 0, none⟩ = some (.int .i64 a0_0) ∧ w22.cell? ⟨a0, 1, none⟩ = some (.int .i64 a0_1) ∧ w22.cell? ⟨a0, 2, none⟩ = some (.int .i64 a0_2) ∧ w22.cell? ⟨a0, 3, none⟩ = some (.int .i64 a0_3) ∧ w22.cell? ⟨a2, 0, none⟩ = some (.int .i64 a1_0) ∧ w22.cell? ⟨a2, 1, none⟩ = some (.int .i64 a1_1) ∧ w22.cell? ⟨a2, 2, none⟩ = some (.int .i64 a1_2) ∧ w22.cell? ⟨a2, 3, none⟩ = some (.int .i64 a1_3) := hS_
               refine norm_ (a' := ?_) ?_ ?_
               rotate_left
               ·simp only [putAll, Act.put, List.setIfInBounds_toArray, List.set_cons_zero, List.set_cons_succ]
                rfl
               refine one_ (i := 1) (N := some 14) #[true, true, true, false, true, true, false, false] rfl rfl (one_of HT_.out (by kernel_rfl)) (by decide) (fun K hK => ?_)
               refine goes_ Tryd.func21 (by kernel_rfl) rfl #[.agg #[.int .i64 a0_0, .int .i64 a0_1, .int .i64 a0_2, .int .i64 a0_3]] (by rfl) rfl rfl (by (try simp only [List.map_toArray, List.map_cons, List.map_nil]); first | done | rfl | (simp only [List.length_drop, List.length_take]; rfl)) ?_
               with_reducible refine (laws_rgFull.calls k a0_0 a0_1 a0_2 a0_3 b4 b5 b6 b7 _ A3.out).mono ?_
               rintro e w23 ⟨rfl, hb⟩
               refine ⟨_, rfl, ?_⟩
               have n0_ := aM (bB (g := a0) (o := .cells #[.int .i64 a0_0, .int .i64 a0_1, .int .i64 a0_2, .int .i64 a0_3] 44 (0, 0)) (by (with_reducible repeat (first | refine bN ?_ _ | refine bD ?_ | refine bA ?_ _)); exact a1.out) hb)
               have n1_ := aM (bB (g := a2) (o := .cells #[.int .i64 a1_0, .int .i64 a1_1, .int .i64 a1_2, .int .i64 a1_3] 44 (0, 0)) (by (with_reducible repeat (first | refine bN ?_ _ | refine bD ?_ | refine bA ?_ _)); exact a3.out) hb)
               have n2_ := aM (bB (g := a4) (o := .cells #[.int .i64 0, .int .i64 0, .int .i64 0, .int .i64 0] 44 (0, 0)) (by (with_reducible repeat (first | refine bN ?_ _ | refine bD ?_ | refine bA ?_ _)); exact a6.out) hb)
               have n3_ := aM (bB (g := a5) (o := .cells #[.int .i64 0, .int .i64 0, .int .i64 0, .int .i64 0] 44 (0, 0)) (by (with_reducible repeat (first | refine bN ?_ _ | refine bD ?_ | refine bA ?_ _)); exact a7.out) hb)
               have n4_ := aM (wP (by repeat (first | (with_reducible first | exact HB.out | apply wA | apply wN | apply wD | refine wS ?_ b2.out | refine wS ?_ b3.out | refine wS ?_ b8.out | refine wS ?_ b9.out) | exact HB.out)) hb)
               clear a1
               clear a3
               clear a6
               clear a7
               clear HB
               have a1 := n0_
               have a3 := n1_
               have a6 := n2_
               have a7 := n3_
               have HB := n4_
               clear n0_ n1_ n2_ n3_ n4_
               (try clear hb)
               (try clear hb2)
               (try clear hk)
               (try clear hi)
               refine hK.out _ _ ⟨(blk_cell a1.out 0).trans rfl, (blk_cell a1.out 1).trans rfl, (blk_cell a1.out 2).trans rfl, (blk_cell a1.out 3).trans rfl, (blk_cell a3.out 0).trans rfl, (blk_cell a3.out 1).trans rfl, (blk_cell a3.out 2).trans rfl, (blk_cell a3.out 3).trans rfl⟩ (fun hHeld => ?_)
               clear hK K
               refine norm_ (a' := ?_) ?_ ?_
               rotate_left
               ·show Act.put _ (some 14) _ = _
                simp only [Act.put, List.setIfInBounds_toArray, List.set_cons_zero, List.set_cons_succ, i64_w, i32_w]
                rfl
               exact norm_ (by first | (simp only [putAll, Act.put, List.setIfInBounds_toArray, List.set_cons_zero, List.set_cons_succ]; done) | (simp only [putAll, Act.put, List.setIfInBounds_toArray, List.set_cons_zero, List.set_cons_succ]; rfl)) (l1 (a4, a5) _ ⟨hHeld, (by (with_reducible repeat (first | refine bN ?_ _ | refine bD ?_ | refine bA ?_ _)); exact a1.out), (by (with_reducible repeat (first | refine bN ?_ _ | refine bD ?_ | refine bA ?_ _)); exact a3.out), (by (with_reducible repeat (first | refine bN ?_ _ | refine bD ?_ | refine bA ?_ _)); exact a6.out), (by (with_reducible repeat (first | refine bN ?_ _ | refine bD ?_ | refine bA ?_ _)); exact a7.out), f1.out, b8.out, a8.out, c2.out, a9.out, c3.out, c6.out, c9.out, f2.out, b9.out, b0.out, c4.out, b1.out, c5.out, (by repeat (first | (with_reducible first | exact HB.out | apply wA | apply wN | apply wD | refine wS ?_ b2.out | refine wS ?_ b3.out | refine wS ?_ b8.out | refine wS ?_ b9.out) | exact HB.out))⟩)
             ·skip
              rintro a5 w22 ⟨hS_, h0_, h1_, h2_, h3_, h4_, h5_, h6_, h7_, h8_, h9_⟩
              have n0_ : Aside0 (w22.heap[a0]? = some (.cells #[.int .i64 a0_0, .int .i64 a0_1, .int .i64 a0_2, .int .i64 a0_3] 44 (0, 0))) := ⟨h0_⟩
              have n1_ : Aside0 (w22.heap[a2]? = some (.cells #[.int .i64 a1_0, .int .i64 a1_1, .int .i64 a1_2, .int .i64 a1_3] 44 (0, 0))) := ⟨h1_⟩
              have n2_ : Aside0 (w22.heap[a5]? = some (.cells #[.int .i64 0, .int .i64 0, .int .i64 0, .int .i64 0] 44 (0, 0))) := ⟨h2_⟩
              have n3_ : Aside0 (w.heap.size ≤ a5) := ⟨h3_⟩
              have n4_ : Aside0 (w.heap.size ≤ a5) := ⟨h4_⟩
              have n5_ : Aside0 (a0 ≠ a5) := ⟨h5_⟩
              have n6_ : Aside0 (a5 ≠ a0) := ⟨h6_⟩
              have n7_ : Aside0 (a2 ≠ a5) := ⟨h7_⟩
              have n8_ : Aside0 (a5 ≠ a2) := ⟨h8_⟩
              have n9_ : Aside0 (Below w.heap.size w w22) := ⟨h9_⟩
              clear a1
              clear a3
              clear HB
              clear h0_ h1_ h2_ h3_ h4_ h5_ h6_ h7_ h8_ h9_
              have a1 := n0_
              have a3 := n1_
              have a7 := n2_
              have f2 := n3_
              have b9 := n4_
              have b0 := n5_
              have c4 := n6_
              have b1 := n7_
              have c5 := n8_
              have HB := n9_
              clear n0_ n1_ n2_ n3_ n4_ n5_ n6_ n7_ n8_ n9_
              have hHeld : w22.cell? ⟨a0, 0, none⟩ = some (.int .i64 a0_0) ∧ w22.cell? ⟨a0, 1, none⟩ = some (.int .i64 a0_1) ∧ w22.cell? ⟨a0, 2, none⟩ = some (.int .i64 a0_2) ∧ w22.cell? ⟨a0, 3, none⟩ = some (.int .i64 a0_3) ∧ w22.cell? ⟨a2, 0, none⟩ = some (.int .i64 a1_0) ∧ w22.cell? ⟨a2, 1, none⟩ = some (.int .i64 a1_1) ∧ w22.cell? ⟨a2, 2, none⟩ = some (.int .i64 a1_2) ∧ w22.cell? ⟨a2, 3, none⟩ = some (.int .i64 a1_3) := hS_
              refine norm_ (a' := ?_) ?_ ?_
              rotate_left
              ·simp only [putAll, Act.put, List.setIfInBounds_toArray, List.set_cons_zero, List.set_cons_succ]
               rfl
              refine two_ (i := 3) (j := 4) (Ni := some 16) (Nj := some 5) #[true, true, true, true, false, true, false, false] #[true, true, true, false, true, true, false, false] rfl rfl rfl rfl (two_of HT_.out (by kernel_rfl)) (by decide) (by decide) (fun K hK => ?_) (fun K hK => ?_)
              ·skip
               refine goes_ Tryd.func21 (by kernel_rfl) rfl #[.agg #[.int .i64 a1_0, .int .i64 a1_1, .int .i64 a1_2, .int .i64 a1_3]] (by rfl) rfl rfl (by (try simp only [List.map_toArray, List.map_cons, List.map_nil]); first | done | rfl | (simp only [List.length_drop, List.length_take]; rfl)) ?_
               with_reducible refine (laws_rgFull.calls k a1_0 a1_1 a1_2 a1_3 d3 d4 d5 d6 _ A4.out).mono ?_
               rintro e w23 ⟨rfl, hb⟩
               refine ⟨_, rfl, ?_⟩
               have n0_ := aM (bB (g := a0) (o := .cells #[.int .i64 a0_0, .int .i64 a0_1, .int .i64 a0_2, .int .i64 a0_3] 44 (0, 0)) (by (with_reducible repeat (first | refine bN ?_ _ | refine bD ?_ | refine bA ?_ _)); exact a1.out) hb)
               have n1_ := aM (bB (g := a2) (o := .cells #[.int .i64 a1_0, .int .i64 a1_1, .int .i64 a1_2, .int .i64 a1_3] 44 (0, 0)) (by (with_reducible repeat (first | refine bN ?_ _ | refine bD ?_ | refine bA ?_ _)); exact a3.out) hb)
               have n2_ := aM (bB (g := a5) (o := .cells #[.int .i64 0, .int .i64 0, .int .i64 0, .int .i64 0] 44 (0, 0)) (by (with_reducible repeat (first | refine bN ?_ _ | refine bD ?_ | refine bA ?_ _)); exact a7.out) hb)
               have n3_ := aM (wP (by repeat (first | (with_reducible first | exact HB.out | apply wA | apply wN | apply wD | refine wS ?_ b2.out | refine wS ?_ b3.out | refine wS ?_ b9.out) | exact HB.out)) hb)
               clear a1
               clear a3
               clear a7
               clear HB
               have a1 := n0_
               have a3 := n1_
               have a7 := n2_
               have HB := n3_
               clear n0_ n1_ n2_ n3_
               (try clear hb)
               (try clear hb2)
               (try clear hk)
               (try clear hi)
               refine hK.out _ _ ⟨(blk_cell a1.out 0).trans rfl, (blk_cell a1.out 1).trans rfl, (blk_cell a1.out 2).trans rfl, (blk_cell a1.out 3).trans rfl, (blk_cell a3.out 0).trans rfl, (blk_cell a3.out 1).trans rfl, (blk_cell a3.out 2).trans rfl, (blk_cell a3.out 3).trans rfl⟩ (fun hHeld => ?_)
               clear hK K
               refine norm_ (a' := ?_) ?_ ?_
               rotate_left
               ·show Act.put _ (some 16) _ = _
                simp only [Act.put, List.setIfInBounds_toArray, List.set_cons_zero, List.set_cons_succ, i64_w, i32_w]
                rfl
               exact norm_ (by first | (simp only [putAll, Act.put, List.setIfInBounds_toArray, List.set_cons_zero, List.set_cons_succ]; done) | (simp only [putAll, Act.put, List.setIfInBounds_toArray, List.set_cons_zero, List.set_cons_succ]; rfl)) (l3 (a5) _ ⟨hHeld, (by (with_reducible repeat (first | refine bN ?_ _ | refine bD ?_ | refine bA ?_ _)); exact a1.out), (by (with_reducible repeat (first | refine bN ?_ _ | refine bD ?_ | refine bA ?_ _)); exact a3.out), (by (with_reducible repeat (first | refine bN ?_ _ | refine bD ?_ | refine bA ?_ _)); exact a7.out), f2.out, b9.out, b0.out, c4.out, b1.out, c5.out, (by repeat (first | (with_reducible first | exact HB.out | apply wA | apply wN | apply wD | refine wS ?_ b2.out | refine wS ?_ b3.out | refine wS ?_ b9.out) | exact HB.out))⟩)
              ·skip
               refine box_step ?hg (N := 5) ?hd (cs := #[.int .i64 0, .int .i64 0, .int .i64 0, .int .i64 0]) (t := 44) ?hr ?_; (case hd => rfl); (case hg => rfl); (case hr => first | (go_simp; done) | (go_simp; rfl))
               intro a4 hg w23 hbox hb
               have n0_ := aM (bB (g := a0) (o := .cells #[.int .i64 a0_0, .int .i64 a0_1, .int .i64 a0_2, .int .i64 a0_3] 44 (0, 0)) (by (with_reducible repeat (first | refine bN ?_ _ | refine bD ?_ | refine bA ?_ _)); exact a1.out) hb)
               have n1_ := aM (bB (g := a2) (o := .cells #[.int .i64 a1_0, .int .i64 a1_1, .int .i64 a1_2, .int .i64 a1_3] 44 (0, 0)) (by (with_reducible repeat (first | refine bN ?_ _ | refine bD ?_ | refine bA ?_ _)); exact a3.out) hb)
               have n2_ := aM (bB (g := a5) (o := .cells #[.int .i64 0, .int .i64 0, .int .i64 0, .int .i64 0] 44 (0, 0)) (by (with_reducible repeat (first | refine bN ?_ _ | refine bD ?_ | refine bA ?_ _)); exact a7.out) hb)
               have n3_ := aM (wP (by repeat (first | (with_reducible first | exact HB.out | apply wA | apply wN | apply wD | refine wS ?_ b2.out | refine wS ?_ b3.out | refine wS ?_ b9.out) | exact HB.out)) hb)
               have n4_ := aM (hbox)
               have n5_ := aM ((by rw [hg]; exact (below_size (by repeat (first | (with_reducible first | exact HB.out | apply wA | apply wN | apply wD | refine wS ?_ b2.out | refine wS ?_ b3.out | refine wS ?_ b9.out) | exact HB.out))) : w.heap.size ≤ a4))
               have n6_ := aM ((by rw [hg]; exact (below_size (by repeat (first | (with_reducible first | exact HB.out | apply wA | apply wN | apply wD | refine wS ?_ b2.out | refine wS ?_ b3.out | refine wS ?_ b9.out) | exact HB.out))) : w.heap.size ≤ a4))
               have n7_ := aM ((by rw [hg]; exact Nat.ne_of_lt (bL (g := a0) (o := .cells #[.int .i64 a0_0, .int .i64 a0_1, .int .i64 a0_2, .int .i64 a0_3] 44 (0, 0)) (by (with_reducible repeat (first | refine bN ?_ _ | refine bD ?_ | refine bA ?_ _)); exact a1.out)) : a0 ≠ a4))
               have n8_ := aM ((by rw [hg]; exact Nat.ne_of_gt (bL (g := a0) (o := .cells #[.int .i64 a0_0, .int .i64 a0_1, .int .i64 a0_2, .int .i64 a0_3] 44 (0, 0)) (by (with_reducible repeat (first | refine bN ?_ _ | refine bD ?_ | refine bA ?_ _)); exact a1.out)) : a4 ≠ a0))
               have n9_ := aM ((by rw [hg]; exact Nat.ne_of_lt (bL (g := a2) (o := .cells #[.int .i64 a1_0, .int .i64 a1_1, .int .i64 a1_2, .int .i64 a1_3] 44 (0, 0)) (by (with_reducible repeat (first | refine bN ?_ _ | refine bD ?_ | refine bA ?_ _)); exact a3.out)) : a2 ≠ a4))
               have e7 := aM ((by rw [hg]; exact Nat.ne_of_gt (bL (g := a2) (o := .cells #[.int .i64 a1_0, .int .i64 a1_1, .int .i64 a1_2, .int .i64 a1_3] 44 (0, 0)) (by (with_reducible repeat (first | refine bN ?_ _ | refine bD ?_ | refine bA ?_ _)); exact a3.out)) : a4 ≠ a2))
               have e8 := aM ((by rw [hg]; exact Nat.ne_of_lt (bL (g := a5) (o := .cells #[.int .i64 0, .int .i64 0, .int .i64 0, .int .i64 0] 44 (0, 0)) (by (with_reducible repeat (first | refine bN ?_ _ | refine bD ?_ | refine bA ?_ _)); exact a7.out)) : a5 ≠ a4))
               have e9 := aM ((by rw [hg]; exact Nat.ne_of_gt (bL (g := a5) (o := .cells #[.int .i64 0, .int .i64 0, .int .i64 0, .int .i64 0] 44 (0, 0)) (by (with_reducible repeat (first | refine bN ?_ _ | refine bD ?_ | refine bA ?_ _)); exact a7.out)) : a4 ≠ a5))
               clear a1
               clear a3
               clear a7
               clear HB
               have a1 := n0_
               have a3 := n1_
               have a7 := n2_
               have HB := n3_
               have a6 := n4_
               have f1 := n5_
               have b8 := n6_
               have a8 := n7_
               have c2 := n8_
               have a9 := n9_
               have c3 := e7
               have c6 := e8
               have c9 := e9
               clear n0_ n1_ n2_ n3_ n4_ n5_ n6_ n7_ n8_ n9_ e7 e8 e9
               clear hb hbox hg
               refine hK.out _ _ ⟨(blk_cell a1.out 0).trans rfl, (blk_cell a1.out 1).trans rfl, (blk_cell a1.out 2).trans rfl, (blk_cell a1.out 3).trans rfl, (blk_cell a3.out 0).trans rfl, (blk_cell a3.out 1).trans rfl, (blk_cell a3.out 2).trans rfl, (blk_cell a3.out 3).trans rfl⟩ (fun hHeld => ?_)
               clear hK K
               refine norm_ (a' := ?_) ?_ ?_
               rotate_left
               ·show Act.put _ (some 5) _ = _
                simp only [Act.put, List.setIfInBounds_toArray, List.set_cons_zero, List.set_cons_succ, i64_w, i32_w]
                rfl
               exact norm_ (by first | (simp only [putAll, Act.put, List.setIfInBounds_toArray, List.set_cons_zero, List.set_cons_succ]; done) | (simp only [putAll, Act.put, List.setIfInBounds_toArray, List.set_cons_zero, List.set_cons_succ]; rfl)) (l1 (a4, a5) _ ⟨hHeld, (by (with_reducible repeat (first | refine bN ?_ _ | refine bD ?_ | refine bA ?_ _)); exact a1.out), (by (with_reducible repeat (first | refine bN ?_ _ | refine bD ?_ | refine bA ?_ _)); exact a3.out), (by (with_reducible repeat (first | refine bN ?_ _ | refine bD ?_ | refine bA ?_ _)); exact a6.out), (by (with_reducible repeat (first | refine bN ?_ _ | refine bD ?_ | refine bA ?_ _)); exact a7.out), f1.out, b8.out, a8.out, c2.out, a9.out, c3.out, c6.out, c9.out, f2.out, b9.out, b0.out, c4.out, b1.out, c5.out, (by repeat (first | (with_reducible first | exact HB.out | apply wA | apply wN | apply wD | refine wS ?_ b2.out | refine wS ?_ b3.out | refine wS ?_ b9.out | refine wS ?_ b8.out) | exact HB.out))⟩)
            ·skip
             rintro a4 w22 ⟨hS_, h0_, h1_, h2_, h3_, h4_, h5_, h6_, h7_, h8_, h9_⟩
             have n0_ : Aside0 (w22.heap[a0]? = some (.cells #[.int .i64 a0_0, .int .i64 a0_1, .int .i64 a0_2, .int .i64 a0_3] 44 (0, 0))) := ⟨h0_⟩
             have n1_ : Aside0 (w22.heap[a2]? = some (.cells #[.int .i64 a1_0, .int .i64 a1_1, .int .i64 a1_2, .int .i64 a1_3] 44 (0, 0))) := ⟨h1_⟩
             have n2_ : Aside0 (w22.heap[a4]? = some (.cells #[.int .i64 0, .int .i64 0, .int .i64 0, .int .i64 0] 44 (0, 0))) := ⟨h2_⟩
             have n3_ : Aside0 (w.heap.size ≤ a4) := ⟨h3_⟩
             have n4_ : Aside0 (w.heap.size ≤ a4) := ⟨h4_⟩
             have n5_ : Aside0 (a0 ≠ a4) := ⟨h5_⟩
             have n6_ : Aside0 (a4 ≠ a0) := ⟨h6_⟩
             have n7_ : Aside0 (a2 ≠ a4) := ⟨h7_⟩
             have n8_ : Aside0 (a4 ≠ a2) := ⟨h8_⟩
             have n9_ : Aside0 (Below w.heap.size w w22) := ⟨h9_⟩
             clear a1
             clear a3
             clear HB
             clear h0_ h1_ h2_ h3_ h4_ h5_ h6_ h7_ h8_ h9_
             have a1 := n0_
             have a3 := n1_
             have a6 := n2_
             have f1 := n3_
             have b8 := n4_
             have a8 := n5_
             have c2 := n6_
             have a9 := n7_
             have c3 := n8_
             have HB := n9_
             clear n0_ n1_ n2_ n3_ n4_ n5_ n6_ n7_ n8_ n9_
             have hHeld : w22.cell? ⟨a0, 0, none⟩ = some (.int .i64 a0_0) ∧ w22.cell? ⟨a0, 1, none⟩ = some (.int .i64 a0_1) ∧ w22.cell? ⟨a0, 2, none⟩ = some (.int .i64 a0_2) ∧ w22.cell? ⟨a0, 3, none⟩ = some (.int .i64 a0_3) ∧ w22.cell? ⟨a2, 0, none⟩ = some (.int .i64 a1_0) ∧ w22.cell? ⟨a2, 1, none⟩ = some (.int .i64 a1_1) ∧ w22.cell? ⟨a2, 2, none⟩ = some (.int .i64 a1_2) ∧ w22.cell? ⟨a2, 3, none⟩ = some (.int .i64 a1_3) := hS_
             refine norm_ (a' := ?_) ?_ ?_
             rotate_left
             ·simp only [putAll, Act.put, List.setIfInBounds_toArray, List.set_cons_zero, List.set_cons_succ]
              rfl
             refine two_ (i := 3) (j := 5) (Ni := some 16) (Nj := some 6) #[true, true, true, true, true, false, false, false] #[true, true, true, false, true, true, false, false] rfl rfl rfl rfl (two_of HT_.out (by kernel_rfl)) (by decide) (by decide) (fun K hK => ?_) (fun K hK => ?_)
             ·skip
              refine goes_ Tryd.func21 (by kernel_rfl) rfl #[.agg #[.int .i64 a1_0, .int .i64 a1_1, .int .i64 a1_2, .int .i64 a1_3]] (by rfl) rfl rfl (by (try simp only [List.map_toArray, List.map_cons, List.map_nil]); first | done | rfl | (simp only [List.length_drop, List.length_take]; rfl)) ?_
              with_reducible refine (laws_rgFull.calls k a1_0 a1_1 a1_2 a1_3 d3 d4 d5 d6 _ A4.out).mono ?_
              rintro e w23 ⟨rfl, hb⟩
              refine ⟨_, rfl, ?_⟩
              have n0_ := aM (bB (g := a0) (o := .cells #[.int .i64 a0_0, .int .i64 a0_1, .int .i64 a0_2, .int .i64 a0_3] 44 (0, 0)) (by (with_reducible repeat (first | refine bN ?_ _ | refine bD ?_ | refine bA ?_ _)); exact a1.out) hb)
              have n1_ := aM (bB (g := a2) (o := .cells #[.int .i64 a1_0, .int .i64 a1_1, .int .i64 a1_2, .int .i64 a1_3] 44 (0, 0)) (by (with_reducible repeat (first | refine bN ?_ _ | refine bD ?_ | refine bA ?_ _)); exact a3.out) hb)
              have n2_ := aM (bB (g := a4) (o := .cells #[.int .i64 0, .int .i64 0, .int .i64 0, .int .i64 0] 44 (0, 0)) (by (with_reducible repeat (first | refine bN ?_ _ | refine bD ?_ | refine bA ?_ _)); exact a6.out) hb)
              have n3_ := aM (wP (by repeat (first | (with_reducible first | exact HB.out | apply wA | apply wN | apply wD | refine wS ?_ b2.out | refine wS ?_ b3.out | refine wS ?_ b8.out) | exact HB.out)) hb)
              clear a1
              clear a3
              clear a6
              clear HB
              have a1 := n0_
              have a3 := n1_
              have a6 := n2_
              have HB := n3_
              clear n0_ n1_ n2_ n3_
              (try clear hb)
              (try clear hb2)
              (try clear hk)
              (try clear hi)
              refine hK.out _ _ ⟨(blk_cell a1.out 0).trans rfl, (blk_cell a1.out 1).trans rfl, (blk_cell a1.out 2).trans rfl, (blk_cell a1.out 3).trans rfl, (blk_cell a3.out 0).trans rfl, (blk_cell a3.out 1).trans rfl, (blk_cell a3.out 2).trans rfl, (blk_cell a3.out 3).trans rfl⟩ (fun hHeld => ?_)
              clear hK K
              refine norm_ (a' := ?_) ?_ ?_
              rotate_left
              ·show Act.put _ (some 16) _ = _
               simp only [Act.put, List.setIfInBounds_toArray, List.set_cons_zero, List.set_cons_succ, i64_w, i32_w]
               rfl
              exact norm_ (by first | (simp only [putAll, Act.put, List.setIfInBounds_toArray, List.set_cons_zero, List.set_cons_succ]; done) | (simp only [putAll, Act.put, List.setIfInBounds_toArray, List.set_cons_zero, List.set_cons_succ]; rfl)) (l2 (a4) _ ⟨hHeld, (by (with_reducible repeat (first | refine bN ?_ _ | refine bD ?_ | refine bA ?_ _)); exact a1.out), (by (with_reducible repeat (first | refine bN ?_ _ | refine bD ?_ | refine bA ?_ _)); exact a3.out), (by (with_reducible repeat (first | refine bN ?_ _ | refine bD ?_ | refine bA ?_ _)); exact a6.out), f1.out, b8.out, a8.out, c2.out, a9.out, c3.out, (by repeat (first | (with_reducible first | exact HB.out | apply wA | apply wN | apply wD | refine wS ?_ b2.out | refine wS ?_ b3.out | refine wS ?_ b8.out) | exact HB.out))⟩)
             ·skip
              refine box_step ?hg (N := 6) ?hd (cs := #[.int .i64 0, .int .i64 0, .int .i64 0, .int .i64 0]) (t := 44) ?hr ?_; (case hd => rfl); (case hg => rfl); (case hr => first | (go_simp; done) | (go_simp; rfl))
              intro a5 hg w23 hbox hb
              have n0_ := aM (bB (g := a0) (o := .cells #[.int .i64 a0_0, .int .i64 a0_1, .int .i64 a0_2, .int .i64 a0_3] 44 (0, 0)) (by (with_reducible repeat (first | refine bN ?_ _ | refine bD ?_ | refine bA ?_ _)); exact a1.out) hb)
              have n1_ := aM (bB (g := a2) (o := .cells #[.int .i64 a1_0, .int .i64 a1_1, .int .i64 a1_2, .int .i64 a1_3] 44 (0, 0)) (by (with_reducible repeat (first | refine bN ?_ _ | refine bD ?_ | refine bA ?_ _)); exact a3.out) hb)
              have n2_ := aM (bB (g := a4) (o := .cells #[.int .i64 0, .int .i64 0, .int .i64 0, .int .i64 0] 44 (0, 0)) (by (with_reducible repeat (first | refine bN ?_ _ | refine bD ?_ | refine bA ?_ _)); exact a6.out) hb)
              have n3_ := aM (wP (by repeat (first | (with_reducible first | exact HB.out | apply wA | apply wN | apply wD | refine wS ?_ b2.out | refine wS ?_ b3.out | refine wS ?_ b8.out) | exact HB.out)) hb)
              have n4_ := aM (hbox)
              have n5_ := aM ((by rw [hg]; exact (below_size (by repeat (first | (with_reducible first | exact HB.out | apply wA | apply wN | apply wD | refine wS ?_ b2.out | refine wS ?_ b3.out | refine wS ?_ b8.out) | exact HB.out))) : w.heap.size ≤ a5))
              have n6_ := aM ((by rw [hg]; exact (below_size (by repeat (first | (with_reducible first | exact HB.out | apply wA | apply wN | apply wD | refine wS ?_ b2.out | refine wS ?_ b3.out | refine wS ?_ b8.out) | exact HB.out))) : w.heap.size ≤ a5))
              have n7_ := aM ((by rw [hg]; exact Nat.ne_of_lt (bL (g := a0) (o := .cells #[.int .i64 a0_0, .int .i64 a0_1, .int .i64 a0_2, .int .i64 a0_3] 44 (0, 0)) (by (with_reducible repeat (first | refine bN ?_ _ | refine bD ?_ | refine bA ?_ _)); exact a1.out)) : a0 ≠ a5))
              have n8_ := aM ((by rw [hg]; exact Nat.ne_of_gt (bL (g := a0) (o := .cells #[.int .i64 a0_0, .int .i64 a0_1, .int .i64 a0_2, .int .i64 a0_3] 44 (0, 0)) (by (with_reducible repeat (first | refine bN ?_ _ | refine bD ?_ | refine bA ?_ _)); exact a1.out)) : a5 ≠ a0))
              have n9_ := aM ((by rw [hg]; exact Nat.ne_of_lt (bL (g := a2) (o := .cells #[.int .i64 a1_0, .int .i64 a1_1, .int .i64 a1_2, .int .i64 a1_3] 44 (0, 0)) (by (with_reducible repeat (first | refine bN ?_ _ | refine bD ?_ | refine bA ?_ _)); exact a3.out)) : a2 ≠ a5))
              have e7 := aM ((by rw [hg]; exact Nat.ne_of_gt (bL (g := a2) (o := .cells #[.int .i64 a1_0, .int .i64 a1_1, .int .i64 a1_2, .int .i64 a1_3] 44 (0, 0)) (by (with_reducible repeat (first | refine bN ?_ _ | refine bD ?_ | refine bA ?_ _)); exact a3.out)) : a5 ≠ a2))
              have e8 := aM ((by rw [hg]; exact Nat.ne_of_lt (bL (g := a4) (o := .cells #[.int .i64 0, .int .i64 0, .int .i64 0, .int .i64 0] 44 (0, 0)) (by (with_reducible repeat (first | refine bN ?_ _ | refine bD ?_ | refine bA ?_ _)); exact a6.out)) : a4 ≠ a5))
              have e9 := aM ((by rw [hg]; exact Nat.ne_of_gt (bL (g := a4) (o := .cells #[.int .i64 0, .int .i64 0, .int .i64 0, .int .i64 0] 44 (0, 0)) (by (with_reducible repeat (first | refine bN ?_ _ | refine bD ?_ | refine bA ?_ _)); exact a6.out)) : a5 ≠ a4))
              clear a1
              clear a3
              clear a6
              clear HB
              have a1 := n0_
              have a3 := n1_
              have a6 := n2_
              have HB := n3_
              have a7 := n4_
              have f2 := n5_
              have b9 := n6_
              have b0 := n7_
              have c4 := n8_
              have b1 := n9_
              have c5 := e7
              have c9 := e8
              have c6 := e9
              clear n0_ n1_ n2_ n3_ n4_ n5_ n6_ n7_ n8_ n9_ e7 e8 e9
              clear hb hbox hg
              refine hK.out _ _ ⟨(blk_cell a1.out 0).trans rfl, (blk_cell a1.out 1).trans rfl, (blk_cell a1.out 2).trans rfl, (blk_cell a1.out 3).trans rfl, (blk_cell a3.out 0).trans rfl, (blk_cell a3.out 1).trans rfl, (blk_cell a3.out 2).trans rfl, (blk_cell a3.out 3).trans rfl⟩ (fun hHeld => ?_)
              clear hK K
              refine norm_ (a' := ?_) ?_ ?_
              rotate_left
              ·show Act.put _ (some 6) _ = _
               simp only [Act.put, List.setIfInBounds_toArray, List.set_cons_zero, List.set_cons_succ, i64_w, i32_w]
               rfl
              exact norm_ (by first | (simp only [putAll, Act.put, List.setIfInBounds_toArray, List.set_cons_zero, List.set_cons_succ]; done) | (simp only [putAll, Act.put, List.setIfInBounds_toArray, List.set_cons_zero, List.set_cons_succ]; rfl)) (l1 (a4, a5) _ ⟨hHeld, (by (with_reducible repeat (first | refine bN ?_ _ | refine bD ?_ | refine bA ?_ _)); exact a1.out), (by (with_reducible repeat (first | refine bN ?_ _ | refine bD ?_ | refine bA ?_ _)); exact a3.out), (by (with_reducible repeat (first | refine bN ?_ _ | refine bD ?_ | refine bA ?_ _)); exact a6.out), (by (with_reducible repeat (first | refine bN ?_ _ | refine bD ?_ | refine bA ?_ _)); exact a7.out), f1.out, b8.out, a8.out, c2.out, a9.out, c3.out, c6.out, c9.out, f2.out, b9.out, b0.out, c4.out, b1.out, c5.out, (by repeat (first | (with_reducible first | exact HB.out | apply wA | apply wN | apply wD | refine wS ?_ b2.out | refine wS ?_ b3.out | refine wS ?_ b8.out | refine wS ?_ b9.out) | exact HB.out))⟩)
           ·skip
            rintro _ w22 ⟨hS_, h0_, h1_, h2_⟩
            have n0_ : Aside0 (w22.heap[a0]? = some (.cells #[.int .i64 a0_0, .int .i64 a0_1, .int .i64 a0_2, .int .i64 a0_3] 44 (0, 0))) := ⟨h0_⟩
            have n1_ : Aside0 (w22.heap[a2]? = some (.cells #[.int .i64 a1_0, .int .i64 a1_1, .int .i64 a1_2, .int .i64 a1_3] 44 (0, 0))) := ⟨h1_⟩
            have n2_ : Aside0 (Below w.heap.size w w22) := ⟨h2_⟩
            clear a1
            clear a3
            clear HB
            clear h0_ h1_ h2_
            have a1 := n0_
            have a3 := n1_
            have HB := n2_
            clear n0_ n1_ n2_
            have hHeld : w22.cell? ⟨a0, 0, none⟩ = some (.int .i64 a0_0) ∧ w22.cell? ⟨a0, 1, none⟩ = some (.int .i64 a0_1) ∧ w22.cell? ⟨a0, 2, none⟩ = some (.int .i64 a0_2) ∧ w22.cell? ⟨a0, 3, none⟩ = some (.int .i64 a0_3) ∧ w22.cell? ⟨a2, 0, none⟩ = some (.int .i64 a1_0) ∧ w22.cell? ⟨a2, 1, none⟩ = some (.int .i64 a1_1) ∧ w22.cell? ⟨a2, 2, none⟩ = some (.int .i64 a1_2) ∧ w22.cell? ⟨a2, 3, none⟩ = some (.int .i64 a1_3) := hS_
            refine norm_ (a' := ?_) ?_ ?_
            rotate_left
            ·simp only [putAll, Act.put, List.setIfInBounds_toArray, List.set_cons_zero, List.set_cons_succ]
             rfl
            refine two_ (i := 4) (j := 5) (Ni := some 5) (Nj := some 6) #[true, true, true, true, true, false, false, false] #[true, true, true, true, false, true, false, false] rfl rfl rfl rfl (two_of HT_.out (by kernel_rfl)) (by decide) (by decide) (fun K hK => ?_) (fun K hK => ?_)
            ·skip
             refine box_step ?hg (N := 5) ?hd (cs := #[.int .i64 0, .int .i64 0, .int .i64 0, .int .i64 0]) (t := 44) ?hr ?_; (case hd => rfl); (case hg => rfl); (case hr => first | (go_simp; done) | (go_simp; rfl))
             intro a4 hg w23 hbox hb
             have n0_ := aM (bB (g := a0) (o := .cells #[.int .i64 a0_0, .int .i64 a0_1, .int .i64 a0_2, .int .i64 a0_3] 44 (0, 0)) (by (with_reducible repeat (first | refine bN ?_ _ | refine bD ?_ | refine bA ?_ _)); exact a1.out) hb)
             have n1_ := aM (bB (g := a2) (o := .cells #[.int .i64 a1_0, .int .i64 a1_1, .int .i64 a1_2, .int .i64 a1_3] 44 (0, 0)) (by (with_reducible repeat (first | refine bN ?_ _ | refine bD ?_ | refine bA ?_ _)); exact a3.out) hb)
             have n2_ := aM (wP (by repeat (first | (with_reducible first | exact HB.out | apply wA | apply wN | apply wD | refine wS ?_ b2.out | refine wS ?_ b3.out) | exact HB.out)) hb)
             have n3_ := aM (hbox)
             have n4_ := aM ((by rw [hg]; exact (below_size (by repeat (first | (with_reducible first | exact HB.out | apply wA | apply wN | apply wD | refine wS ?_ b2.out | refine wS ?_ b3.out) | exact HB.out))) : w.heap.size ≤ a4))
             have n5_ := aM ((by rw [hg]; exact (below_size (by repeat (first | (with_reducible first | exact HB.out | apply wA | apply wN | apply wD | refine wS ?_ b2.out | refine wS ?_ b3.out) | exact HB.out))) : w.heap.size ≤ a4))
             have n6_ := aM ((by rw [hg]; exact Nat.ne_of_lt (bL (g := a0) (o := .cells #[.int .i64 a0_0, .int .i64 a0_1, .int .i64 a0_2, .int .i64 a0_3] 44 (0, 0)) (by (with_reducible repeat (first | refine bN ?_ _ | refine bD ?_ | refine bA ?_ _)); exact a1.out)) : a0 ≠ a4))
             have n7_ := aM ((by rw [hg]; exact Nat.ne_of_gt (bL (g := a0) (o := .cells #[.int .i64 a0_0, .int .i64 a0_1, .int .i64 a0_2, .int .i64 a0_3] 44 (0, 0)) (by (with_reducible repeat (first | refine bN ?_ _ | refine bD ?_ | refine bA ?_ _)); exact a1.out)) : a4 ≠ a0))
             have n8_ := aM ((by rw [hg]; exact Nat.ne_of_lt (bL (g := a2) (o := .cells #[.int .i64 a1_0, .int .i64 a1_1, .int .i64 a1_2, .int .i64 a1_3] 44 (0, 0)) (by (with_reducible repeat (first | refine bN ?_ _ | refine bD ?_ | refine bA ?_ _)); exact a3.out)) : a2 ≠ a4))
             have n9_ := aM ((by rw [hg]; exact Nat.ne_of_gt (bL (g := a2) (o := .cells #[.int .i64 a1_0, .int .i64 a1_1, .int .i64 a1_2, .int .i64 a1_3] 44 (0, 0)) (by (with_reducible repeat (first | refine bN ?_ _ | refine bD ?_ | refine bA ?_ _)); exact a3.out)) : a4 ≠ a2))
             clear a1
             clear a3
             clear HB
             have a1 := n0_
             have a3 := n1_
             have HB := n2_
             have a6 := n3_
             have f1 := n4_
             have b8 := n5_
             have a8 := n6_
             have c2 := n7_
             have a9 := n8_
             have c3 := n9_
             clear n0_ n1_ n2_ n3_ n4_ n5_ n6_ n7_ n8_ n9_
             clear hb hbox hg
             refine hK.out _ _ ⟨(blk_cell a1.out 0).trans rfl, (blk_cell a1.out 1).trans rfl, (blk_cell a1.out 2).trans rfl, (blk_cell a1.out 3).trans rfl, (blk_cell a3.out 0).trans rfl, (blk_cell a3.out 1).trans rfl, (blk_cell a3.out 2).trans rfl, (blk_cell a3.out 3).trans rfl⟩ (fun hHeld => ?_)
             clear hK K
             refine norm_ (a' := ?_) ?_ ?_
             rotate_left
             ·show Act.put _ (some 5) _ = _
              simp only [Act.put, List.setIfInBounds_toArray, List.set_cons_zero, List.set_cons_succ, i64_w, i32_w]
              rfl
             exact norm_ (by first | (simp only [putAll, Act.put, List.setIfInBounds_toArray, List.set_cons_zero, List.set_cons_succ]; done) | (simp only [putAll, Act.put, List.setIfInBounds_toArray, List.set_cons_zero, List.set_cons_succ]; rfl)) (l2 (a4) _ ⟨hHeld, (by (with_reducible repeat (first | refine bN ?_ _ | refine bD ?_ | refine bA ?_ _)); exact a1.out), (by (with_reducible repeat (first | refine bN ?_ _ | refine bD ?_ | refine bA ?_ _)); exact a3.out), (by (with_reducible repeat (first | refine bN ?_ _ | refine bD ?_ | refine bA ?_ _)); exact a6.out), f1.out, b8.out, a8.out, c2.out, a9.out, c3.out, (by repeat (first | (with_reducible first | exact HB.out | apply wA | apply wN | apply wD | refine wS ?_ b2.out | refine wS ?_ b3.out | refine wS ?_ b8.out) | exact HB.out))⟩)
            ·skip
             refine box_step ?hg (N := 6) ?hd (cs := #[.int .i64 0, .int .i64 0, .int .i64 0, .int .i64 0]) (t := 44) ?hr ?_; (case hd => rfl); (case hg => rfl); (case hr => first | (go_simp; done) | (go_simp; rfl))
             intro a5 hg w23 hbox hb
             have n0_ := aM (bB (g := a0) (o := .cells #[.int .i64 a0_0, .int .i64 a0_1, .int .i64 a0_2, .int .i64 a0_3] 44 (0, 0)) (by (with_reducible repeat (first | refine bN ?_ _ | refine bD ?_ | refine bA ?_ _)); exact a1.out) hb)
             have n1_ := aM (bB (g := a2) (o := .cells #[.int .i64 a1_0, .int .i64 a1_1, .int .i64 a1_2, .int .i64 a1_3] 44 (0, 0)) (by (with_reducible repeat (first | refine bN ?_ _ | refine bD ?_ | refine bA ?_ _)); exact a3.out) hb)
             have n2_ := aM (wP (by repeat (first | (with_reducible first | exact HB.out | apply wA | apply wN | apply wD | refine wS ?_ b2.out | refine wS ?_ b3.out) | exact HB.out)) hb)
             have n3_ := aM (hbox)
             have n4_ := aM ((by rw [hg]; exact (below_size (by repeat (first | (with_reducible first | exact HB.out | apply wA | apply wN | apply wD | refine wS ?_ b2.out | refine wS ?_ b3.out) | exact HB.out))) : w.heap.size ≤ a5))
             have n5_ := aM ((by rw [hg]; exact (below_size (by repeat (first | (with_reducible first | exact HB.out | apply wA | apply wN | apply wD | refine wS ?_ b2.out | refine wS ?_ b3.out) | exact HB.out))) : w.heap.size ≤ a5))
             have n6_ := aM ((by rw [hg]; exact Nat.ne_of_lt (bL (g := a0) (o := .cells #[.int .i64 a0_0, .int .i64 a0_1, .int .i64 a0_2, .int .i64 a0_3] 44 (0, 0)) (by (with_reducible repeat (first | refine bN ?_ _ | refine bD ?_ | refine bA ?_ _)); exact a1.out)) : a0 ≠ a5))
             have n7_ := aM ((by rw [hg]; exact Nat.ne_of_gt (bL (g := a0) (o := .cells #[.int .i64 a0_0, .int .i64 a0_1, .int .i64 a0_2, .int .i64 a0_3] 44 (0, 0)) (by (with_reducible repeat (first | refine bN ?_ _ | refine bD ?_ | refine bA ?_ _)); exact a1.out)) : a5 ≠ a0))
             have n8_ := aM ((by rw [hg]; exact Nat.ne_of_lt (bL (g := a2) (o := .cells #[.int .i64 a1_0, .int .i64 a1_1, .int .i64 a1_2, .int .i64 a1_3] 44 (0, 0)) (by (with_reducible repeat (first | refine bN ?_ _ | refine bD ?_ | refine bA ?_ _)); exact a3.out)) : a2 ≠ a5))
             have n9_ := aM ((by rw [hg]; exact Nat.ne_of_gt (bL (g := a2) (o := .cells #[.int .i64 a1_0, .int .i64 a1_1, .int .i64 a1_2, .int .i64 a1_3] 44 (0, 0)) (by (with_reducible repeat (first | refine bN ?_ _ | refine bD ?_ | refine bA ?_ _)); exact a3.out)) : a5 ≠ a2))
             clear a1
             clear a3
             clear HB
             have a1 := n0_
             have a3 := n1_
             have HB := n2_
             have a7 := n3_
             have f2 := n4_
             have b9 := n5_
             have b0 := n6_
             have c4 := n7_
             have b1 := n8_
             have c5 := n9_
             clear n0_ n1_ n2_ n3_ n4_ n5_ n6_ n7_ n8_ n9_
             clear hb hbox hg
             refine hK.out _ _ ⟨(blk_cell a1.out 0).trans rfl, (blk_cell a1.out 1).trans rfl, (blk_cell a1.out 2).trans rfl, (blk_cell a1.out 3).trans rfl, (blk_cell a3.out 0).trans rfl, (blk_cell a3.out 1).trans rfl, (blk_cell a3.out 2).trans rfl, (blk_cell a3.out 3).trans rfl⟩ (fun hHeld => ?_)
             clear hK K
             refine norm_ (a' := ?_) ?_ ?_
             rotate_left
             ·show Act.put _ (some 6) _ = _
              simp only [Act.put, List.setIfInBounds_toArray, List.set_cons_zero, List.set_cons_succ, i64_w, i32_w]
              rfl
             exact norm_ (by first | (simp only [putAll, Act.put, List.setIfInBounds_toArray, List.set_cons_zero, List.set_cons_succ]; done) | (simp only [putAll, Act.put, List.setIfInBounds_toArray, List.set_cons_zero, List.set_cons_succ]; rfl)) (l3 (a5) _ ⟨hHeld, (by (with_reducible repeat (first | refine bN ?_ _ | refine bD ?_ | refine bA ?_ _)); exact a1.out), (by (with_reducible repeat (first | refine bN ?_ _ | refine bD ?_ | refine bA ?_ _)); exact a3.out), (by (with_reducible repeat (first | refine bN ?_ _ | refine bD ?_ | refine bA ?_ _)); exact a7.out), f2.out, b9.out, b0.out, c4.out, b1.out, c5.out, (by repeat (first | (with_reducible first | exact HB.out | apply wA | apply wN | apply wD | refine wS ?_ b2.out | refine wS ?_ b3.out | refine wS ?_ b9.out) | exact HB.out))⟩)
          ·skip
           rintro ⟨a4, a5⟩ w23 ⟨hS_, h0_, h1_, h2_, h3_, h4_, h5_, h6_, h7_, h8_, h9_, j1, j2, j3, j4, j5, j6, j7, j8, j9⟩
           have n0_ : Aside0 (w23.heap[a0]? = some (.cells #[.int .i64 a0_0, .int .i64 a0_1, .int .i64 a0_2, .int .i64 a0_3] 44 (0, 0))) := ⟨h0_⟩
           have n1_ : Aside0 (w23.heap[a2]? = some (.cells #[.int .i64 a1_0, .int .i64 a1_1, .int .i64 a1_2, .int .i64 a1_3] 44 (0, 0))) := ⟨h1_⟩
           have n2_ : Aside0 (w23.heap[a4]? = some (.cells #[.int .i64 0, .int .i64 0, .int .i64 0, .int .i64 0] 44 (0, 0))) := ⟨h2_⟩
           have n3_ : Aside0 (w23.heap[a5]? = some (.cells #[.int .i64 0, .int .i64 0, .int .i64 0, .int .i64 0] 44 (0, 0))) := ⟨h3_⟩
           have n4_ : Aside0 (w.heap.size ≤ a4) := ⟨h4_⟩
           have n5_ : Aside0 (w.heap.size ≤ a4) := ⟨h5_⟩
           have n6_ : Aside0 (a0 ≠ a4) := ⟨h6_⟩
           have n7_ : Aside0 (a4 ≠ a0) := ⟨h7_⟩
           have n8_ : Aside0 (a2 ≠ a4) := ⟨h8_⟩
           have n9_ : Aside0 (a4 ≠ a2) := ⟨h9_⟩
           have e7 : Aside0 (a5 ≠ a4) := ⟨j1⟩
           have e8 : Aside0 (a4 ≠ a5) := ⟨j2⟩
           have e9 : Aside0 (w.heap.size ≤ a5) := ⟨j3⟩
           have g4 : Aside0 (w.heap.size ≤ a5) := ⟨j4⟩
           have g5 : Aside0 (a0 ≠ a5) := ⟨j5⟩
           have g6 : Aside0 (a5 ≠ a0) := ⟨j6⟩
           have h7 : Aside0 (a2 ≠ a5) := ⟨j7⟩
           have h8 : Aside0 (a5 ≠ a2) := ⟨j8⟩
           have h9 : Aside0 (Below w.heap.size w w23) := ⟨j9⟩
           clear a1
           clear a3
           clear HB
           clear h0_ h1_ h2_ h3_ h4_ h5_ h6_ h7_ h8_ h9_ j1 j2 j3 j4 j5 j6 j7 j8 j9
           have a1 := n0_
           have a3 := n1_
           have a6 := n2_
           have a7 := n3_
           have f1 := n4_
           have b8 := n5_
           have a8 := n6_
           have c2 := n7_
           have a9 := n8_
           have c3 := n9_
           have c6 := e7
           have c9 := e8
           have f2 := e9
           have b9 := g4
           have b0 := g5
           have c4 := g6
           have b1 := h7
           have c5 := h8
           have HB := h9
           clear n0_ n1_ n2_ n3_ n4_ n5_ n6_ n7_ n8_ n9_ e7 e8 e9 g4 g5 g6 h7 h8 h9
           have hHeld : w23.cell? ⟨a0, 0, none⟩ = some (.int .i64 a0_0) ∧ w23.cell? ⟨a0, 1, none⟩ = some (.int .i64 a0_1) ∧ w23.cell? ⟨a0, 2, none⟩ = some (.int .i64 a0_2) ∧ w23.cell? ⟨a0, 3, none⟩ = some (.int .i64 a0_3) ∧ w23.cell? ⟨a2, 0, none⟩ = some (.int .i64 a1_0) ∧ w23.cell? ⟨a2, 1, none⟩ = some (.int .i64 a1_1) ∧ w23.cell? ⟨a2, 2, none⟩ = some (.int .i64 a1_2) ∧ w23.cell? ⟨a2, 3, none⟩ = some (.int .i64 a1_3) := hS_
           refine norm_ (a' := ?_) ?_ ?_
           rotate_left
           ·simp only [putAll, Act.put, List.setIfInBounds_toArray, List.set_cons_zero, List.set_cons_succ]
            rfl
           refine one_ (i := 3) (N := some 16) #[true, true, true, true, true, true, false, false] rfl rfl (one_of HT_.out (by kernel_rfl)) (by decide) (fun K hK => ?_)
           refine goes_ Tryd.func21 (by kernel_rfl) rfl #[.agg #[.int .i64 a1_0, .int .i64 a1_1, .int .i64 a1_2, .int .i64 a1_3]] (by rfl) rfl rfl (by (try simp only [List.map_toArray, List.map_cons, List.map_nil]); first | done | rfl | (simp only [List.length_drop, List.length_take]; rfl)) ?_
           with_reducible refine (laws_rgFull.calls k a1_0 a1_1 a1_2 a1_3 d3 d4 d5 d6 _ A4.out).mono ?_
           rintro e w24 ⟨rfl, hb⟩
           refine ⟨_, rfl, ?_⟩
           have n0_ := aM (bB (g := a0) (o := .cells #[.int .i64 a0_0, .int .i64 a0_1, .int .i64 a0_2, .int .i64 a0_3] 44 (0, 0)) (by (with_reducible repeat (first | refine bN ?_ _ | refine bD ?_ | refine bA ?_ _)); exact a1.out) hb)
           have n1_ := aM (bB (g := a2) (o := .cells #[.int .i64 a1_0, .int .i64 a1_1, .int .i64 a1_2, .int .i64 a1_3] 44 (0, 0)) (by (with_reducible repeat (first | refine bN ?_ _ | refine bD ?_ | refine bA ?_ _)); exact a3.out) hb)
           have n2_ := aM (bB (g := a4) (o := .cells #[.int .i64 0, .int .i64 0, .int .i64 0, .int .i64 0] 44 (0, 0)) (by (with_reducible repeat (first | refine bN ?_ _ | refine bD ?_ | refine bA ?_ _)); exact a6.out) hb)
           have n3_ := aM (bB (g := a5) (o := .cells #[.int .i64 0, .int .i64 0, .int .i64 0, .int .i64 0] 44 (0, 0)) (by (with_reducible repeat (first | refine bN ?_ _ | refine bD ?_ | refine bA ?_ _)); exact a7.out) hb)
           have n4_ := aM (wP (by repeat (first | (with_reducible first | exact HB.out | apply wA | apply wN | apply wD | refine wS ?_ b2.out | refine wS ?_ b3.out | refine wS ?_ b8.out | refine wS ?_ b9.out) | exact HB.out)) hb)
           clear a1
           clear a3
           clear a6
           clear a7
           clear HB
           have a1 := n0_
           have a3 := n1_
           have a6 := n2_
           have a7 := n3_
           have HB := n4_
           clear n0_ n1_ n2_ n3_ n4_
           (try clear hb)
           (try clear hb2)
           (try clear hk)
           (try clear hi)
           refine hK.out _ _ ⟨(blk_cell a1.out 0).trans rfl, (blk_cell a1.out 1).trans rfl, (blk_cell a1.out 2).trans rfl, (blk_cell a1.out 3).trans rfl, (blk_cell a3.out 0).trans rfl, (blk_cell a3.out 1).trans rfl, (blk_cell a3.out 2).trans rfl, (blk_cell a3.out 3).trans rfl⟩ (fun hHeld => ?_)
           clear hK K
           refine norm_ (a' := ?_) ?_ ?_
           rotate_left
           ·show Act.put _ (some 16) _ = _
            simp only [Act.put, List.setIfInBounds_toArray, List.set_cons_zero, List.set_cons_succ, i64_w, i32_w]
            rfl
           exact norm_ (by first | (simp only [putAll, Act.put, List.setIfInBounds_toArray, List.set_cons_zero, List.set_cons_succ]; done) | (simp only [putAll, Act.put, List.setIfInBounds_toArray, List.set_cons_zero, List.set_cons_succ]; rfl)) (j0 (a4, a5) _ ⟨hHeld, (by (with_reducible repeat (first | refine bN ?_ _ | refine bD ?_ | refine bA ?_ _)); exact a1.out), (by (with_reducible repeat (first | refine bN ?_ _ | refine bD ?_ | refine bA ?_ _)); exact a3.out), (by (with_reducible repeat (first | refine bN ?_ _ | refine bD ?_ | refine bA ?_ _)); exact a6.out), (by (with_reducible repeat (first | refine bN ?_ _ | refine bD ?_ | refine bA ?_ _)); exact a7.out), f1.out, b8.out, a8.out, c2.out, a9.out, c3.out, c6.out, c9.out, f2.out, b9.out, b0.out, c4.out, b1.out, c5.out, (by repeat (first | (with_reducible first | exact HB.out | apply wA | apply wN | apply wD | refine wS ?_ b2.out | refine wS ?_ b3.out | refine wS ?_ b8.out | refine wS ?_ b9.out) | exact HB.out))⟩)
         ·skip
          rintro a5 w23 ⟨hS_, h0_, h1_, h2_, h3_, h4_, h5_, h6_, h7_, h8_, h9_⟩
          have n0_ : Aside0 (w23.heap[a0]? = some (.cells #[.int .i64 a0_0, .int .i64 a0_1, .int .i64 a0_2, .int .i64 a0_3] 44 (0, 0))) := ⟨h0_⟩
          have n1_ : Aside0 (w23.heap[a2]? = some (.cells #[.int .i64 a1_0, .int .i64 a1_1, .int .i64 a1_2, .int .i64 a1_3] 44 (0, 0))) := ⟨h1_⟩
          have n2_ : Aside0 (w23.heap[a5]? = some (.cells #[.int .i64 0, .int .i64 0, .int .i64 0, .int .i64 0] 44 (0, 0))) := ⟨h2_⟩
          have n3_ : Aside0 (w.heap.size ≤ a5) := ⟨h3_⟩
          have n4_ : Aside0 (w.heap.size ≤ a5) := ⟨h4_⟩
          have n5_ : Aside0 (a0 ≠ a5) := ⟨h5_⟩
          have n6_ : Aside0 (a5 ≠ a0) := ⟨h6_⟩
          have n7_ : Aside0 (a2 ≠ a5) := ⟨h7_⟩
          have n8_ : Aside0 (a5 ≠ a2) := ⟨h8_⟩
          have n9_ : Aside0 (Below w.heap.size w w23) := ⟨h9_⟩
          clear a1
          clear a3
          clear HB
          clear h0_ h1_ h2_ h3_ h4_ h5_ h6_ h7_ h8_ h9_
          have a1 := n0_
          have a3 := n1_
          have a7 := n2_
          have f2 := n3_
          have b9 := n4_
          have b0 := n5_
          have c4 := n6_
          have b1 := n7_
          have c5 := n8_
          have HB := n9_
          clear n0_ n1_ n2_ n3_ n4_ n5_ n6_ n7_ n8_ n9_
          have hHeld : w23.cell? ⟨a0, 0, none⟩ = some (.int .i64 a0_0) ∧ w23.cell? ⟨a0, 1, none⟩ = some (.int .i64 a0_1) ∧ w23.cell? ⟨a0, 2, none⟩ = some (.int .i64 a0_2) ∧ w23.cell? ⟨a0, 3, none⟩ = some (.int .i64 a0_3) ∧ w23.cell? ⟨a2, 0, none⟩ = some (.int .i64 a1_0) ∧ w23.cell? ⟨a2, 1, none⟩ = some (.int .i64 a1_1) ∧ w23.cell? ⟨a2, 2, none⟩ = some (.int .i64 a1_2) ∧ w23.cell? ⟨a2, 3, none⟩ = some (.int .i64 a1_3) := hS_
          refine norm_ (a' := ?_) ?_ ?_
          rotate_left
          ·simp only [putAll, Act.put, List.setIfInBounds_toArray, List.set_cons_zero, List.set_cons_succ]
           rfl
          refine one_ (i := 4) (N := some 5) #[true, true, true, true, true, true, false, false] rfl rfl (one_of HT_.out (by kernel_rfl)) (by decide) (fun K hK => ?_)
          refine box_step ?hg (N := 5) ?hd (cs := #[.int .i64 0, .int .i64 0, .int .i64 0, .int .i64 0]) (t := 44) ?hr ?_; (case hd => rfl); (case hg => rfl); (case hr => first | (go_simp; done) | (go_simp; rfl))
          intro a4 hg w24 hbox hb
          have n0_ := aM (bB (g := a0) (o := .cells #[.int .i64 a0_0, .int .i64 a0_1, .int .i64 a0_2, .int .i64 a0_3] 44 (0, 0)) (by (with_reducible repeat (first | refine bN ?_ _ | refine bD ?_ | refine bA ?_ _)); exact a1.out) hb)
          have n1_ := aM (bB (g := a2) (o := .cells #[.int .i64 a1_0, .int .i64 a1_1, .int .i64 a1_2, .int .i64 a1_3] 44 (0, 0)) (by (with_reducible repeat (first | refine bN ?_ _ | refine bD ?_ | refine bA ?_ _)); exact a3.out) hb)
          have n2_ := aM (bB (g := a5) (o := .cells #[.int .i64 0, .int .i64 0, .int .i64 0, .int .i64 0] 44 (0, 0)) (by (with_reducible repeat (first | refine bN ?_ _ | refine bD ?_ | refine bA ?_ _)); exact a7.out) hb)
          have n3_ := aM (wP (by repeat (first | (with_reducible first | exact HB.out | apply wA | apply wN | apply wD | refine wS ?_ b2.out | refine wS ?_ b3.out | refine wS ?_ b9.out) | exact HB.out)) hb)
          have n4_ := aM (hbox)
          have n5_ := aM ((by rw [hg]; exact (below_size (by repeat (first | (with_reducible first | exact HB.out | apply wA | apply wN | apply wD | refine wS ?_ b2.out | refine wS ?_ b3.out | refine wS ?_ b9.out) | exact HB.out))) : w.heap.size ≤ a4))
          have n6_ := aM ((by rw [hg]; exact (below_size (by repeat (first | (with_reducible first | exact HB.out | apply wA | apply wN | apply wD | refine wS ?_ b2.out | refine wS ?_ b3.out | refine wS ?_ b9.out) | exact HB.out))) : w.heap.size ≤ a4))
          have n7_ := aM ((by rw [hg]; exact Nat.ne_of_lt (bL (g := a0) (o := .cells #[.int .i64 a0_0, .int .i64 a0_1, .int .i64 a0_2, .int .i64 a0_3] 44 (0, 0)) (by (with_reducible repeat (first | refine bN ?_ _ | refine bD ?_ | refine bA ?_ _)); exact a1.out)) : a0 ≠ a4))
          have n8_ := aM ((by rw [hg]; exact Nat.ne_of_gt (bL (g := a0) (o := .cells #[.int .i64 a0_0, .int .i64 a0_1, .int .i64 a0_2, .int .i64 a0_3] 44 (0, 0)) (by (with_reducible repeat (first | refine bN ?_ _ | refine bD ?_ | refine bA ?_ _)); exact a1.out)) : a4 ≠ a0))
          have n9_ := aM ((by rw [hg]; exact Nat.ne_of_lt (bL (g := a2) (o := .cells #[.int .i64 a1_0, .int .i64 a1_1, .int .i64 a1_2, .int .i64 a1_3] 44 (0, 0)) (by (with_reducible repeat (first | refine bN ?_ _ | refine bD ?_ | refine bA ?_ _)); exact a3.out)) : a2 ≠ a4))
          have e7 := aM ((by rw [hg]; exact Nat.ne_of_gt (bL (g := a2) (o := .cells #[.int .i64 a1_0, .int .i64 a1_1, .int .i64 a1_2, .int .i64 a1_3] 44 (0, 0)) (by (with_reducible repeat (first | refine bN ?_ _ | refine bD ?_ | refine bA ?_ _)); exact a3.out)) : a4 ≠ a2))
          have e8 := aM ((by rw [hg]; exact Nat.ne_of_lt (bL (g := a5) (o := .cells #[.int .i64 0, .int .i64 0, .int .i64 0, .int .i64 0] 44 (0, 0)) (by (with_reducible repeat (first | refine bN ?_ _ | refine bD ?_ | refine bA ?_ _)); exact a7.out)) : a5 ≠ a4))
          have e9 := aM ((by rw [hg]; exact Nat.ne_of_gt (bL (g := a5) (o := .cells #[.int .i64 0, .int .i64 0, .int .i64 0, .int .i64 0] 44 (0, 0)) (by (with_reducible repeat (first | refine bN ?_ _ | refine bD ?_ | refine bA ?_ _)); exact a7.out)) : a4 ≠ a5))
          clear a1
          clear a3
          clear a7
          clear HB
          have a1 := n0_
          have a3 := n1_
          have a7 := n2_
          have HB := n3_
          have a6 := n4_
          have f1 := n5_
          have b8 := n6_
          have a8 := n7_
          have c2 := n8_
          have a9 := n9_
          have c3 := e7
          have c6 := e8
          have c9 := e9
          clear n0_ n1_ n2_ n3_ n4_ n5_ n6_ n7_ n8_ n9_ e7 e8 e9
          clear hb hbox hg
          refine hK.out _ _ ⟨(blk_cell a1.out 0).trans rfl, (blk_cell a1.out 1).trans rfl, (blk_cell a1.out 2).trans rfl, (blk_cell a1.out 3).trans rfl, (blk_cell a3.out 0).trans rfl, (blk_cell a3.out 1).trans rfl, (blk_cell a3.out 2).trans rfl, (blk_cell a3.out 3).trans rfl⟩ (fun hHeld => ?_)
          clear hK K
          refine norm_ (a' := ?_) ?_ ?_
          rotate_left
          ·show Act.put _ (some 5) _ = _
           simp only [Act.put, List.setIfInBounds_toArray, List.set_cons_zero, List.set_cons_succ, i64_w, i32_w]
           rfl
          exact norm_ (by first | (simp only [putAll, Act.put, List.setIfInBounds_toArray, List.set_cons_zero, List.set_cons_succ]; done) | (simp only [putAll, Act.put, List.setIfInBounds_toArray, List.set_cons_zero, List.set_cons_succ]; rfl)) (j0 (a4, a5) _ ⟨hHeld, (by (with_reducible repeat (first | refine bN ?_ _ | refine bD ?_ | refine bA ?_ _)); exact a1.out), (by (with_reducible repeat (first | refine bN ?_ _ | refine bD ?_ | refine bA ?_ _)); exact a3.out), (by (with_reducible repeat (first | refine bN ?_ _ | refine bD ?_ | refine bA ?_ _)); exact a6.out), (by (with_reducible repeat (first | refine bN ?_ _ | refine bD ?_ | refine bA ?_ _)); exact a7.out), f1.out, b8.out, a8.out, c2.out, a9.out, c3.out, c6.out, c9.out, f2.out, b9.out, b0.out, c4.out, b1.out, c5.out, (by repeat (first | (with_reducible first | exact HB.out | apply wA | apply wN | apply wD | refine wS ?_ b2.out | refine wS ?_ b3.out | refine wS ?_ b9.out | refine wS ?_ b8.out) | exact HB.out))⟩)
        ·skip
         rintro a4 w23 ⟨hS_, h0_, h1_, h2_, h3_, h4_, h5_, h6_, h7_, h8_, h9_⟩
         have n0_ : Aside0 (w23.heap[a0]? = some (.cells #[.int .i64 a0_0, .int .i64 a0_1, .int .i64 a0_2, .int .i64 a0_3] 44 (0, 0))) := ⟨h0_⟩
         have n1_ : Aside0 (w23.heap[a2]? = some (.cells #[.int .i64 a1_0, .int .i64 a1_1, .int .i64 a1_2, .int .i64 a1_3] 44 (0, 0))) := ⟨h1_⟩
         have n2_ : Aside0 (w23.heap[a4]? = some (.cells #[.int .i64 0, .int .i64 0, .int .i64 0, .int .i64 0] 44 (0, 0))) := ⟨h2_⟩
         have n3_ : Aside0 (w.heap.size ≤ a4) := ⟨h3_⟩
         have n4_ : Aside0 (w.heap.size ≤ a4) := ⟨h4_⟩
         have n5_ : Aside0 (a0 ≠ a4) := ⟨h5_⟩
         have n6_ : Aside0 (a4 ≠ a0) := ⟨h6_⟩
         have n7_ : Aside0 (a2 ≠ a4) := ⟨h7_⟩
         have n8_ : Aside0 (a4 ≠ a2) := ⟨h8_⟩
         have n9_ : Aside0 (Below w.heap.size w w23) := ⟨h9_⟩
         clear a1
         clear a3
         clear HB
         clear h0_ h1_ h2_ h3_ h4_ h5_ h6_ h7_ h8_ h9_
         have a1 := n0_
         have a3 := n1_
         have a6 := n2_
         have f1 := n3_
         have b8 := n4_
         have a8 := n5_
         have c2 := n6_
         have a9 := n7_
         have c3 := n8_
         have HB := n9_
         clear n0_ n1_ n2_ n3_ n4_ n5_ n6_ n7_ n8_ n9_
         have hHeld : w23.cell? ⟨a0, 0, none⟩ = some (.int .i64 a0_0) ∧ w23.cell? ⟨a0, 1, none⟩ = some (.int .i64 a0_1) ∧ w23.cell? ⟨a0, 2, none⟩ = some (.int .i64 a0_2) ∧ w23.cell? ⟨a0, 3, none⟩ = some (.int .i64 a0_3) ∧ w23.cell? ⟨a2, 0, none⟩ = some (.int .i64 a1_0) ∧ w23.cell? ⟨a2, 1, none⟩ = some (.int .i64 a1_1) ∧ w23.cell? ⟨a2, 2, none⟩ = some (.int .i64 a1_2) ∧ w23.cell? ⟨a2, 3, none⟩ = some (.int .i64 a1_3) := hS_
         refine norm_ (a' := ?_) ?_ ?_
         rotate_left
         ·simp only [putAll, Act.put, List.setIfInBounds_toArray, List.set_cons_zero, List.set_cons_succ]
          rfl
         refine one_ (i := 5) (N := some 6) #[true, true, true, true, true, true, false, false] rfl rfl (one_of HT_.out (by kernel_rfl)) (by decide) (fun K hK => ?_)
         refine box_step ?hg (N := 6) ?hd (cs := #[.int .i64 0, .int .i64 0, .int .i64 0, .int .i64 0]) (t := 44) ?hr ?_; (case hd => rfl); (case hg => rfl); (case hr => first | (go_simp; done) | (go_simp; rfl))
         intro a5 hg w24 hbox hb
         have n0_ := aM (bB (g := a0) (o := .cells #[.int .i64 a0_0, .int .i64 a0_1, .int .i64 a0_2, .int .i64 a0_3] 44 (0, 0)) (by (with_reducible repeat (first | refine bN ?_ _ | refine bD ?_ | refine bA ?_ _)); exact a1.out) hb)
         have n1_ := aM (bB (g := a2) (o := .cells #[.int .i64 a1_0, .int .i64 a1_1, .int .i64 a1_2, .int .i64 a1_3] 44 (0, 0)) (by (with_reducible repeat (first | refine bN ?_ _ | refine bD ?_ | refine bA ?_ _)); exact a3.out) hb)
         have n2_ := aM (bB (g := a4) (o := .cells #[.int .i64 0, .int .i64 0, .int .i64 0, .int .i64 0] 44 (0, 0)) (by (with_reducible repeat (first | refine bN ?_ _ | refine bD ?_ | refine bA ?_ _)); exact a6.out) hb)
         have n3_ := aM (wP (by repeat (first | (with_reducible first | exact HB.out | apply wA | apply wN | apply wD | refine wS ?_ b2.out | refine wS ?_ b3.out | refine wS ?_ b8.out) | exact HB.out)) hb)
         have n4_ := aM (hbox)
         have n5_ := aM ((by rw [hg]; exact (below_size (by repeat (first | (with_reducible first | exact HB.out | apply wA | apply wN | apply wD | refine wS ?_ b2.out | refine wS ?_ b3.out | refine wS ?_ b8.out) | exact HB.out))) : w.heap.size ≤ a5))
         have n6_ := aM ((by rw [hg]; exact (below_size (by repeat (first | (with_reducible first | exact HB.out | apply wA | apply wN | apply wD | refine wS ?_ b2.out | refine wS ?_ b3.out | refine wS ?_ b8.out) | exact HB.out))) : w.heap.size ≤ a5))
         have n7_ := aM ((by rw [hg]; exact Nat.ne_of_lt (bL (g := a0) (o := .cells #[.int .i64 a0_0, .int .i64 a0_1, .int .i64 a0_2, .int .i64 a0_3] 44 (0, 0)) (by (with_reducible repeat (first | refine bN ?_ _ | refine bD ?_ | refine bA ?_ _)); exact a1.out)) : a0 ≠ a5))
         have n8_ := aM ((by rw [hg]; exact Nat.ne_of_gt (bL (g := a0) (o := .cells #[.int .i64 a0_0, .int .i64 a0_1, .int .i64 a0_2, .int .i64 a0_3] 44 (0, 0)) (by (with_reducible repeat (first | refine bN ?_ _ | refine bD ?_ | refine bA ?_ _)); exact a1.out)) : a5 ≠ a0))
         have n9_ := aM ((by rw [hg]; exact Nat.ne_of_lt (bL (g := a2) (o := .cells #[.int .i64 a1_0, .int .i64 a1_1, .int .i64 a1_2, .int .i64 a1_3] 44 (0, 0)) (by (with_reducible repeat (first | refine bN ?_ _ | refine bD ?_ | refine bA ?_ _)); exact a3.out)) : a2 ≠ a5))
         have e7 := aM ((by rw [hg]; exact Nat.ne_of_gt (bL (g := a2) (o := .cells #[.int .i64 a1_0, .int .i64 a1_1, .int .i64 a1_2, .int .i64 a1_3] 44 (0, 0)) (by (with_reducible repeat (first | refine bN ?_ _ | refine bD ?_ | refine bA ?_ _)); exact a3.out)) : a5 ≠ a2))
         have e8 := aM ((by rw [hg]; exact Nat.ne_of_lt (bL (g := a4) (o := .cells #[.int .i64 0, .int .i64 0, .int .i64 0, .int .i64 0] 44 (0, 0)) (by (with_reducible repeat (first | refine bN ?_ _ | refine bD ?_ | refine bA ?_ _)); exact a6.out)) : a4 ≠ a5))
         have e9 := aM ((by rw [hg]; exact Nat.ne_of_gt (bL (g := a4) (o := .cells #[.int .i64 0, .int .i64 0, .int .i64 0, .int .i64 0] 44 (0, 0)) (by (with_reducible repeat (first | refine bN ?_ _ | refine bD ?_ | refine bA ?_ _)); exact a6.out)) : a5 ≠ a4))
         clear a1
         clear a3
         clear a6
         clear HB
         have a1 := n0_
         have a3 := n1_
         have a6 := n2_
         have HB := n3_
         have a7 := n4_
         have f2 := n5_
         have b9 := n6_
         have b0 := n7_
         have c4 := n8_
         have b1 := n9_
         have c5 := e7
         have c9 := e8
         have c6 := e9
         clear n0_ n1_ n2_ n3_ n4_ n5_ n6_ n7_ n8_ n9_ e7 e8 e9
         clear hb hbox hg
         refine hK.out _ _ ⟨(blk_cell a1.out 0).trans rfl, (blk_cell a1.out 1).trans rfl, (blk_cell a1.out 2).trans rfl, (blk_cell a1.out 3).trans rfl, (blk_cell a3.out 0).trans rfl, (blk_cell a3.out 1).trans rfl, (blk_cell a3.out 2).trans rfl, (blk_cell a3.out 3).trans rfl⟩ (fun hHeld => ?_)
         clear hK K
         refine norm_ (a' := ?_) ?_ ?_
         rotate_left
         ·show Act.put _ (some 6) _ = _
          simp only [Act.put, List.setIfInBounds_toArray, List.set_cons_zero, List.set_cons_succ, i64_w, i32_w]
          rfl
         exact norm_ (by first | (simp only [putAll, Act.put, List.setIfInBounds_toArray, List.set_cons_zero, List.set_cons_succ]; done) | (simp only [putAll, Act.put, List.setIfInBounds_toArray, List.set_cons_zero, List.set_cons_succ]; rfl)) (j0 (a4, a5) _ ⟨hHeld, (by (with_reducible repeat (first | refine bN ?_ _ | refine bD ?_ | refine bA ?_ _)); exact a1.out), (by (with_reducible repeat (first | refine bN ?_ _ | refine bD ?_ | refine bA ?_ _)); exact a3.out), (by (with_reducible repeat (first | refine bN ?_ _ | refine bD ?_ | refine bA ?_ _)); exact a6.out), (by (with_reducible repeat (first | refine bN ?_ _ | refine bD ?_ | refine bA ?_ _)); exact a7.out), f1.out, b8.out, a8.out, c2.out, a9.out, c3.out, c6.out, c9.out, f2.out, b9.out, b0.out, c4.out, b1.out, c5.out, (by repeat (first | (with_reducible first | exact HB.out | apply wA | apply wN | apply wD | refine wS ?_ b2.out | refine wS ?_ b3.out | refine wS ?_ b8.out | refine wS ?_ b9.out) | exact HB.out))⟩)
       rintro ⟨a4, a5⟩ w24 ⟨hS_, h0_, h1_, h2_, h3_, h4_, h5_, h6_, h7_, h8_, h9_, j1, j2, j3, j4, j5, j6, j7, j8, j9⟩
       have n0_ : Aside0 (w24.heap[a0]? = some (.cells #[.int .i64 a0_0, .int .i64 a0_1, .int .i64 a0_2, .int .i64 a0_3] 44 (0, 0))) := ⟨h0_⟩
       have n1_ : Aside0 (w24.heap[a2]? = some (.cells #[.int .i64 a1_0, .int .i64 a1_1, .int .i64 a1_2, .int .i64 a1_3] 44 (0, 0))) := ⟨h1_⟩
       have n2_ : Aside0 (w24.heap[a4]? = some (.cells #[.int .i64 0, .int .i64 0, .int .i64 0, .int .i64 0] 44 (0, 0))) := ⟨h2_⟩
       have n3_ : Aside0 (w24.heap[a5]? = some (.cells #[.int .i64 0, .int .i64 0, .int .i64 0, .int .i64 0] 44 (0, 0))) := ⟨h3_⟩
       have n4_ : Aside0 (w.heap.size ≤ a4) := ⟨h4_⟩
       have n5_ : Aside0 (w.heap.size ≤ a4) := ⟨h5_⟩
       have n6_ : Aside0 (a0 ≠ a4) := ⟨h6_⟩
       have n7_ : Aside0 (a4 ≠ a0) := ⟨h7_⟩
       have n8_ : Aside0 (a2 ≠ a4) := ⟨h8_⟩
       have n9_ : Aside0 (a4 ≠ a2) := ⟨h9_⟩
       have e7 : Aside0 (a5 ≠ a4) := ⟨j1⟩
       have e8 : Aside0 (a4 ≠ a5) := ⟨j2⟩
       have e9 : Aside0 (w.heap.size ≤ a5) := ⟨j3⟩
       have g4 : Aside0 (w.heap.size ≤ a5) := ⟨j4⟩
       have g5 : Aside0 (a0 ≠ a5) := ⟨j5⟩
       have g6 : Aside0 (a5 ≠ a0) := ⟨j6⟩
       have h7 : Aside0 (a2 ≠ a5) := ⟨j7⟩
       have h8 : Aside0 (a5 ≠ a2) := ⟨j8⟩
       have h9 : Aside0 (Below w.heap.size w w24) := ⟨j9⟩
       clear a1
       clear a3
       clear HB
       clear h0_ h1_ h2_ h3_ h4_ h5_ h6_ h7_ h8_ h9_ j1 j2 j3 j4 j5 j6 j7 j8 j9
       have a1 := n0_
       have a3 := n1_
       have a6 := n2_
       have a7 := n3_
       have f1 := n4_
       have b8 := n5_
       have a8 := n6_
       have c2 := n7_
       have a9 := n8_
       have c3 := n9_
       have c6 := e7
       have c9 := e8
       have f2 := e9
       have b9 := g4
       have b0 := g5
       have c4 := g6
       have b1 := h7
       have c5 := h8
       have HB := h9
       clear n0_ n1_ n2_ n3_ n4_ n5_ n6_ n7_ n8_ n9_ e7 e8 e9 g4 g5 g6 h7 h8 h9
       have hHeld : w24.cell? ⟨a0, 0, none⟩ = some (.int .i64 a0_0) ∧ w24.cell? ⟨a0, 1, none⟩ = some (.int .i64 a0_1) ∧ w24.cell? ⟨a0, 2, none⟩ = some (.int .i64 a0_2) ∧ w24.cell? ⟨a0, 3, none⟩ = some (.int .i64 a0_3) ∧ w24.cell? ⟨a2, 0, none⟩ = some (.int .i64 a1_0) ∧ w24.cell? ⟨a2, 1, none⟩ = some (.int .i64 a1_1) ∧ w24.cell? ⟨a2, 2, none⟩ = some (.int .i64 a1_2) ∧ w24.cell? ⟨a2, 3, none⟩ = some (.int .i64 a1_3) := hS_
       refine norm_ (a' := ?_) ?_ ?_
       rotate_left
       ·simp only [putAll, Act.put, List.setIfInBounds_toArray, List.set_cons_zero, List.set_cons_succ]
        rfl
       refine one_ (i := 6) (N := none) #[true, true, true, true, true, true, true, false] rfl rfl (one_of HT_.out (by kernel_rfl)) (by decide) (fun K hK => ?_)
       have F4 : w24.cell? ⟨a4, 0, none⟩ = some (.int .i64 0) := (blk_cell a6.out 0).trans rfl
       have B5 := blk_frozen a6.out 0
       have o0 := a8.out
       have o1 := a9.out
       have o2 := c6.out
       have o3 := c2.out
       have o4 := c3.out
       have o5 := c9.out
       have F5 : w24.cell? ⟨a4, 1, none⟩ = some (.int .i64 0) := (blk_cell a6.out 1).trans rfl
       have B6 := blk_frozen a6.out 1
       have o6 := a8.out
       have o7 := a9.out
       have o8 := c6.out
       have o9 := c2.out
       have p0 := c3.out
       have p1 := c9.out
       have F6 : w24.cell? ⟨a4, 2, none⟩ = some (.int .i64 0) := (blk_cell a6.out 2).trans rfl
       have B7 := blk_frozen a6.out 2
       have p2 := a8.out
       have p3 := a9.out
       have p4 := c6.out
       have p5 := c2.out
       have p6 := c3.out
       have p7 := c9.out
       have F7 : w24.cell? ⟨a4, 3, none⟩ = some (.int .i64 0) := (blk_cell a6.out 3).trans rfl
       have B8 := blk_frozen a6.out 3
       have p8 := a8.out
       have p9 := a9.out
       have q0 := c6.out
       have q1 := c2.out
       have q2 := c3.out
       have q3 := c9.out
       refine skip_ (w1 := ?_) (by rfl) rfl ?_ ?_
       rotate_left
       ·go_simp
        rfl
       refine hK.out _ _ ⟨((cell_far (p := ⟨a4, _, none⟩) a8.out _).trans (((cell_far (p := ⟨a4, _, none⟩) a8.out _).trans (((cell_far (p := ⟨a4, _, none⟩) a8.out _).trans (((cell_far (p := ⟨a4, _, none⟩) a8.out _).trans (hHeld.1)))))))), ((cell_far (p := ⟨a4, _, none⟩) a8.out _).trans (((cell_far (p := ⟨a4, _, none⟩) a8.out _).trans (((cell_far (p := ⟨a4, _, none⟩) a8.out _).trans (((cell_far (p := ⟨a4, _, none⟩) a8.out _).trans (hHeld.2.1)))))))), ((cell_far (p := ⟨a4, _, none⟩) a8.out _).trans (((cell_far (p := ⟨a4, _, none⟩) a8.out _).trans (((cell_far (p := ⟨a4, _, none⟩) a8.out _).trans (((cell_far (p := ⟨a4, _, none⟩) a8.out _).trans (hHeld.2.2.1)))))))), ((cell_far (p := ⟨a4, _, none⟩) a8.out _).trans (((cell_far (p := ⟨a4, _, none⟩) a8.out _).trans (((cell_far (p := ⟨a4, _, none⟩) a8.out _).trans (((cell_far (p := ⟨a4, _, none⟩) a8.out _).trans (hHeld.2.2.2.1)))))))), ((cell_far (p := ⟨a4, _, none⟩) a9.out _).trans (((cell_far (p := ⟨a4, _, none⟩) a9.out _).trans (((cell_far (p := ⟨a4, _, none⟩) a9.out _).trans (((cell_far (p := ⟨a4, _, none⟩) a9.out _).trans (hHeld.2.2.2.2.1)))))))), ((cell_far (p := ⟨a4, _, none⟩) a9.out _).trans (((cell_far (p := ⟨a4, _, none⟩) a9.out _).trans (((cell_far (p := ⟨a4, _, none⟩) a9.out _).trans (((cell_far (p := ⟨a4, _, none⟩) a9.out _).trans (hHeld.2.2.2.2.2.1)))))))), ((cell_far (p := ⟨a4, _, none⟩) a9.out _).trans (((cell_far (p := ⟨a4, _, none⟩) a9.out _).trans (((cell_far (p := ⟨a4, _, none⟩) a9.out _).trans (((cell_far (p := ⟨a4, _, none⟩) a9.out _).trans (hHeld.2.2.2.2.2.2.1)))))))), ((cell_far (p := ⟨a4, _, none⟩) a9.out _).trans (((cell_far (p := ⟨a4, _, none⟩) a9.out _).trans (((cell_far (p := ⟨a4, _, none⟩) a9.out _).trans (((cell_far (p := ⟨a4, _, none⟩) a9.out _).trans (hHeld.2.2.2.2.2.2.2))))))))⟩ (fun hHeld => ?_)
       clear hK K
       refine one_ (i := 7) (N := none) #[true, true, true, true, true, true, true, true] rfl rfl (one_of HT_.out (by kernel_rfl)) (by decide) (fun K hK => ?_)
       have F8 : w24.cell? ⟨a5, 0, none⟩ = some (.int .i64 0) := (blk_cell a7.out 0).trans rfl
       have B9 := blk_frozen a7.out 0
       have q4 := b0.out
       have q5 := b1.out
       have q6 := c9.out
       have q7 := c4.out
       have q8 := c5.out
       have q9 := c6.out
       have F9 : w24.cell? ⟨a5, 1, none⟩ = some (.int .i64 0) := (blk_cell a7.out 1).trans rfl
       have C0 := blk_frozen a7.out 1
       have r0 := b0.out
       have r1 := b1.out
       have r2 := c9.out
       have r3 := c4.out
       have r4 := c5.out
       have r5 := c6.out
       have G0 : w24.cell? ⟨a5, 2, none⟩ = some (.int .i64 0) := (blk_cell a7.out 2).trans rfl
       have C1 := blk_frozen a7.out 2
       have r6 := b0.out
       have r7 := b1.out
       have r8 := c9.out
       have r9 := c4.out
       have t0 := c5.out
       have t1 := c6.out
       have G1 : w24.cell? ⟨a5, 3, none⟩ = some (.int .i64 0) := (blk_cell a7.out 3).trans rfl
       have C2 := blk_frozen a7.out 3
       have t2 := b0.out
       have t3 := b1.out
       have t4 := c9.out
       have t5 := c4.out
       have t6 := c5.out
       have t7 := c6.out
       refine skip_ (w1 := ?_) (by rfl) rfl ?_ ?_
       rotate_left
       ·go_simp
        rfl
       refine hK.out _ _ ⟨((cell_far (p := ⟨a5, _, none⟩) b0.out _).trans (((cell_far (p := ⟨a5, _, none⟩) b0.out _).trans (((cell_far (p := ⟨a5, _, none⟩) b0.out _).trans (((cell_far (p := ⟨a5, _, none⟩) b0.out _).trans (hHeld.1)))))))), ((cell_far (p := ⟨a5, _, none⟩) b0.out _).trans (((cell_far (p := ⟨a5, _, none⟩) b0.out _).trans (((cell_far (p := ⟨a5, _, none⟩) b0.out _).trans (((cell_far (p := ⟨a5, _, none⟩) b0.out _).trans (hHeld.2.1)))))))), ((cell_far (p := ⟨a5, _, none⟩) b0.out _).trans (((cell_far (p := ⟨a5, _, none⟩) b0.out _).trans (((cell_far (p := ⟨a5, _, none⟩) b0.out _).trans (((cell_far (p := ⟨a5, _, none⟩) b0.out _).trans (hHeld.2.2.1)))))))), ((cell_far (p := ⟨a5, _, none⟩) b0.out _).trans (((cell_far (p := ⟨a5, _, none⟩) b0.out _).trans (((cell_far (p := ⟨a5, _, none⟩) b0.out _).trans (((cell_far (p := ⟨a5, _, none⟩) b0.out _).trans (hHeld.2.2.2.1)))))))), ((cell_far (p := ⟨a5, _, none⟩) b1.out _).trans (((cell_far (p := ⟨a5, _, none⟩) b1.out _).trans (((cell_far (p := ⟨a5, _, none⟩) b1.out _).trans (((cell_far (p := ⟨a5, _, none⟩) b1.out _).trans (hHeld.2.2.2.2.1)))))))), ((cell_far (p := ⟨a5, _, none⟩) b1.out _).trans (((cell_far (p := ⟨a5, _, none⟩) b1.out _).trans (((cell_far (p := ⟨a5, _, none⟩) b1.out _).trans (((cell_far (p := ⟨a5, _, none⟩) b1.out _).trans (hHeld.2.2.2.2.2.1)))))))), ((cell_far (p := ⟨a5, _, none⟩) b1.out _).trans (((cell_far (p := ⟨a5, _, none⟩) b1.out _).trans (((cell_far (p := ⟨a5, _, none⟩) b1.out _).trans (((cell_far (p := ⟨a5, _, none⟩) b1.out _).trans (hHeld.2.2.2.2.2.2.1)))))))), ((cell_far (p := ⟨a5, _, none⟩) b1.out _).trans (((cell_far (p := ⟨a5, _, none⟩) b1.out _).trans (((cell_far (p := ⟨a5, _, none⟩) b1.out _).trans (((cell_far (p := ⟨a5, _, none⟩) b1.out _).trans (hHeld.2.2.2.2.2.2.2))))))))⟩ (fun hHeld => ?_)
       clear hK K
       refine done_ (done_of HT_.out (by kernel_rfl)) ?_
       have C3 := c2.out
       have C4 := a8.out
       have C5 := c3.out
       have C6 := a9.out
       have C7 := c9.out
       have C8 := c6.out
       have t8 : w24.cell? ⟨a4, 0, none⟩ = some (.int .i64 0) := (blk_cell a6.out 0).trans rfl
       have t9 : w24.cell? ⟨a4, 1, none⟩ = some (.int .i64 0) := (blk_cell a6.out 1).trans rfl
       have v0 : w24.cell? ⟨a4, 2, none⟩ = some (.int .i64 0) := (blk_cell a6.out 2).trans rfl
       have v1 : w24.cell? ⟨a4, 3, none⟩ = some (.int .i64 0) := (blk_cell a6.out 3).trans rfl
       have v2 := blk_frozen a6.out 0
       have v3 := blk_frozen a6.out 1
       have v4 := blk_frozen a6.out 2
       have v5 := blk_frozen a6.out 3
       have C9 := c4.out
       have D0 := b0.out
       have D1 := c5.out
       have D2 := b1.out
       have v6 : w24.cell? ⟨a5, 0, none⟩ = some (.int .i64 0) := (blk_cell a7.out 0).trans rfl
       have v7 : w24.cell? ⟨a5, 1, none⟩ = some (.int .i64 0) := (blk_cell a7.out 1).trans rfl
       have v8 : w24.cell? ⟨a5, 2, none⟩ = some (.int .i64 0) := (blk_cell a7.out 2).trans rfl
       have v9 : w24.cell? ⟨a5, 3, none⟩ = some (.int .i64 0) := (blk_cell a7.out 3).trans rfl
       have x0 := blk_frozen a7.out 0
       have x1 := blk_frozen a7.out 1
       have x2 := blk_frozen a7.out 2
       have x3 := blk_frozen a7.out 3
       try go_wp2_with (first | ((with_reducible refine gC (f := 30) rfl ?_); refine gL (some 20) rfl rfl Tryd.func30 (by kernel_rfl) rfl #[.agg #[.int .i64 b4, .int .i64 b5, .int .i64 b6, .int .i64 b7], .agg #[.int .i64 d3, .int .i64 d4, .int .i64 d5, .int .i64 d6]] rfl (by (try simp only [List.map_toArray, List.map_cons, List.map_nil]); first | done | rfl | (simp only [List.length_drop, List.length_take]; rfl)) ?_; (with_reducible refine (impl_RGUnion.calls b4 b5 b6 b7 d3 d4 d5 d6 f6 f8 g0 g1 true true _ A5.out).mono ?_); rintro e w40 ⟨rfl, hb⟩; refine ⟨_, rfl, ?_⟩; have n0_ := aM (bB (g := a0) (o := .cells #[.int .i64 a0_0, .int .i64 a0_1, .int .i64 a0_2, .int .i64 a0_3] 44 (0, 0)) (by (with_reducible repeat (first | refine bN ?_ _ | refine bD ?_ | refine bA ?_ _)); refine blk_far ?_ b0.out _; (with_reducible repeat (first | refine bN ?_ _ | refine bD ?_ | refine bA ?_ _)); refine blk_far ?_ b0.out _; (with_reducible repeat (first | refine bN ?_ _ | refine bD ?_ | refine bA ?_ _)); refine blk_far ?_ b0.out _; (with_reducible repeat (first | refine bN ?_ _ | refine bD ?_ | refine bA ?_ _)); refine blk_far ?_ b0.out _; (with_reducible repeat (first | refine bN ?_ _ | refine bD ?_ | refine bA ?_ _)); refine blk_far ?_ a8.out _; (with_reducible repeat (first | refine bN ?_ _ | refine bD ?_ | refine bA ?_ _)); refine blk_far ?_ a8.out _; (with_reducible repeat (first | refine bN ?_ _ | refine bD ?_ | refine bA ?_ _)); refine blk_far ?_ a8.out _; (with_reducible repeat (first | refine bN ?_ _ | refine bD ?_ | refine bA ?_ _)); refine blk_far ?_ a8.out _; (with_reducible repeat (first | refine bN ?_ _ | refine bD ?_ | refine bA ?_ _)); exact a1.out) hb); have n1_ := aM (bB (g := a2) (o := .cells #[.int .i64 a1_0, .int .i64 a1_1, .int .i64 a1_2, .int .i64 a1_3] 44 (0, 0)) (by (with_reducible repeat (first | refine bN ?_ _ | refine bD ?_ | refine bA ?_ _)); refine blk_far ?_ b1.out _; (with_reducible repeat (first | refine bN ?_ _ | refine bD ?_ | refine bA ?_ _)); refine blk_far ?_ b1.out _; (with_reducible repeat (first | refine bN ?_ _ | refine bD ?_ | refine bA ?_ _)); refine blk_far ?_ b1.out _; (with_reducible repeat (first | refine bN ?_ _ | refine bD ?_ | refine bA ?_ _)); refine blk_far ?_ b1.out _; (with_reducible repeat (first | refine bN ?_ _ | refine bD ?_ | refine bA ?_ _)); refine blk_far ?_ a9.out _; (with_reducible repeat (first | refine bN ?_ _ | refine bD ?_ | refine bA ?_ _)); refine blk_far ?_ a9.out _; (with_reducible repeat (first | refine bN ?_ _ | refine bD ?_ | refine bA ?_ _)); refine blk_far ?_ a9.out _; (with_reducible repeat (first | refine bN ?_ _ | refine bD ?_ | refine bA ?_ _)); refine blk_far ?_ a9.out _; (with_reducible repeat (first | refine bN ?_ _ | refine bD ?_ | refine bA ?_ _)); exact a3.out) hb); have n2_ := aM (bB (g := a4) (o := .cells #[.int .i64 b4, .int .i64 b5, .int .i64 b6, .int .i64 b7] 44 (0, 0)) (by (with_reducible repeat (first | refine bN ?_ _ | refine bD ?_ | refine bA ?_ _)); refine blk_far ?_ c9.out _; (with_reducible repeat (first | refine bN ?_ _ | refine bD ?_ | refine bA ?_ _)); refine blk_far ?_ c9.out _; (with_reducible repeat (first | refine bN ?_ _ | refine bD ?_ | refine bA ?_ _)); refine blk_far ?_ c9.out _; (with_reducible repeat (first | refine bN ?_ _ | refine bD ?_ | refine bA ?_ _)); refine blk_far ?_ c9.out _; (with_reducible repeat (first | refine bN ?_ _ | refine bD ?_ | refine bA ?_ _)); refine blk_put (cs := #[.int .i64 b4, .int .i64 b5, .int .i64 b6, .int .i64 0]) ?_ 3 _ rfl; (with_reducible repeat (first | refine bN ?_ _ | refine bD ?_ | refine bA ?_ _)); refine blk_put (cs := #[.int .i64 b4, .int .i64 b5, .int .i64 0, .int .i64 0]) ?_ 2 _ rfl; (with_reducible repeat (first | refine bN ?_ _ | refine bD ?_ | refine bA ?_ _)); refine blk_put (cs := #[.int .i64 b4, .int .i64 0, .int .i64 0, .int .i64 0]) ?_ 1 _ rfl; (with_reducible repeat (first | refine bN ?_ _ | refine bD ?_ | refine bA ?_ _)); refine blk_put (cs := #[.int .i64 0, .int .i64 0, .int .i64 0, .int .i64 0]) ?_ 0 _ rfl; (with_reducible repeat (first | refine bN ?_ _ | refine bD ?_ | refine bA ?_ _)); exact a6.out) hb); have n3_ := aM (bB (g := a5) (o := .cells #[.int .i64 d3, .int .i64 d4, .int .i64 d5, .int .i64 d6] 44 (0, 0)) (by (with_reducible repeat (first | refine bN ?_ _ | refine bD ?_ | refine bA ?_ _)); refine blk_put (cs := #[.int .i64 d3, .int .i64 d4, .int .i64 d5, .int .i64 0]) ?_ 3 _ rfl; (with_reducible repeat (first | refine bN ?_ _ | refine bD ?_ | refine bA ?_ _)); refine blk_put (cs := #[.int .i64 d3, .int .i64 d4, .int .i64 0, .int .i64 0]) ?_ 2 _ rfl; (with_reducible repeat (first | refine bN ?_ _ | refine bD ?_ | refine bA ?_ _)); refine blk_put (cs := #[.int .i64 d3, .int .i64 0, .int .i64 0, .int .i64 0]) ?_ 1 _ rfl; (with_reducible repeat (first | refine bN ?_ _ | refine bD ?_ | refine bA ?_ _)); refine blk_put (cs := #[.int .i64 0, .int .i64 0, .int .i64 0, .int .i64 0]) ?_ 0 _ rfl; (with_reducible repeat (first | refine bN ?_ _ | refine bD ?_ | refine bA ?_ _)); refine blk_far ?_ c6.out _; (with_reducible repeat (first | refine bN ?_ _ | refine bD ?_ | refine bA ?_ _)); refine blk_far ?_ c6.out _; (with_reducible repeat (first | refine bN ?_ _ | refine bD ?_ | refine bA ?_ _)); refine blk_far ?_ c6.out _; (with_reducible repeat (first | refine bN ?_ _ | refine bD ?_ | refine bA ?_ _)); refine blk_far ?_ c6.out _; (with_reducible repeat (first | refine bN ?_ _ | refine bD ?_ | refine bA ?_ _)); exact a7.out) hb); have n4_ := aM (wP (by repeat (first | (with_reducible first | exact HB.out | apply wA | apply wN | apply wD | refine wS ?_ b2.out | refine wS ?_ b3.out | refine wS ?_ b8.out | refine wS ?_ b9.out) | exact HB.out)) hb); clear a1; clear a3; clear a6; clear a7; clear HB; have a1 := n0_; have a3 := n1_; have a6 := n2_; have a7 := n3_; have HB := n4_; clear n0_ n1_ n2_ n3_ n4_; (try clear hb); (try clear hb2); (try clear hk); (try clear hi)) | ((with_reducible refine gate_dst (N := 7) rfl ?_); refine box_event ?hg (N := 7) ?hd (cs := #[.int .i64 0, .int .i64 0, .int .i64 0, .int .i64 0]) (t := 44) ?hr ?_; (case hd => rfl); (case hg => rfl); (case hr => first | (go_simp; done) | (go_simp; rfl)); intro d7 hg w41 hbox hb; have n0_ := aM (bB (g := a0) (o := .cells #[.int .i64 a0_0, .int .i64 a0_1, .int .i64 a0_2, .int .i64 a0_3] 44 (0, 0)) (by (with_reducible repeat (first | refine bN ?_ _ | refine bD ?_ | refine bA ?_ _)); exact a1.out) hb); have n1_ := aM (bB (g := a2) (o := .cells #[.int .i64 a1_0, .int .i64 a1_1, .int .i64 a1_2, .int .i64 a1_3] 44 (0, 0)) (by (with_reducible repeat (first | refine bN ?_ _ | refine bD ?_ | refine bA ?_ _)); exact a3.out) hb); have n2_ := aM (bB (g := a4) (o := .cells #[.int .i64 b4, .int .i64 b5, .int .i64 b6, .int .i64 b7] 44 (0, 0)) (by (with_reducible repeat (first | refine bN ?_ _ | refine bD ?_ | refine bA ?_ _)); exact a6.out) hb); have n3_ := aM (bB (g := a5) (o := .cells #[.int .i64 d3, .int .i64 d4, .int .i64 d5, .int .i64 d6] 44 (0, 0)) (by (with_reducible repeat (first | refine bN ?_ _ | refine bD ?_ | refine bA ?_ _)); exact a7.out) hb); have n4_ := aM (wP (by repeat (first | (with_reducible first | exact HB.out | apply wA | apply wN | apply wD | refine wS ?_ b2.out | refine wS ?_ b3.out | refine wS ?_ b8.out | refine wS ?_ b9.out) | exact HB.out)) hb); have n5_ := aM (hbox); have n6_ := aM ((by rw [hg]; exact (below_size (by repeat (first | (with_reducible first | exact HB.out | apply wA | apply wN | apply wD | refine wS ?_ b2.out | refine wS ?_ b3.out | refine wS ?_ b8.out | refine wS ?_ b9.out) | exact HB.out))) : w.heap.size ≤ d7)); have n7_ := aM ((by rw [hg]; exact (below_size (by repeat (first | (with_reducible first | exact HB.out | apply wA | apply wN | apply wD | refine wS ?_ b2.out | refine wS ?_ b3.out | refine wS ?_ b8.out | refine wS ?_ b9.out) | exact HB.out))) : w.heap.size ≤ d7)); have n8_ := aM ((by rw [hg]; exact Nat.ne_of_lt (bL (g := a0) (o := .cells #[.int .i64 a0_0, .int .i64 a0_1, .int .i64 a0_2, .int .i64 a0_3] 44 (0, 0)) (by (with_reducible repeat (first | refine bN ?_ _ | refine bD ?_ | refine bA ?_ _)); exact a1.out)) : a0 ≠ d7)); have n9_ := aM ((by rw [hg]; exact Nat.ne_of_gt (bL (g := a0) (o := .cells #[.int .i64 a0_0, .int .i64 a0_1, .int .i64 a0_2, .int .i64 a0_3] 44 (0, 0)) (by (with_reducible repeat (first | refine bN ?_ _ | refine bD ?_ | refine bA ?_ _)); exact a1.out)) : d7 ≠ a0)); have e7 := aM ((by rw [hg]; exact Nat.ne_of_lt (bL (g := a2) (o := .cells #[.int .i64 a1_0, .int .i64 a1_1, .int .i64 a1_2, .int .i64 a1_3] 44 (0, 0)) (by (with_reducible repeat (first | refine bN ?_ _ | refine bD ?_ | refine bA ?_ _)); exact a3.out)) : a2 ≠ d7)); have e8 := aM ((by rw [hg]; exact Nat.ne_of_gt (bL (g := a2) (o := .cells #[.int .i64 a1_0, .int .i64 a1_1, .int .i64 a1_2, .int .i64 a1_3] 44 (0, 0)) (by (with_reducible repeat (first | refine bN ?_ _ | refine bD ?_ | refine bA ?_ _)); exact a3.out)) : d7 ≠ a2)); have e9 := aM ((by rw [hg]; exact Nat.ne_of_lt (bL (g := a4) (o := .cells #[.int .i64 b4, .int .i64 b5, .int .i64 b6, .int .i64 b7] 44 (0, 0)) (by (with_reducible repeat (first | refine bN ?_ _ | refine bD ?_ | refine bA ?_ _)); exact a6.out)) : a4 ≠ d7)); have g4 := aM ((by rw [hg]; exact Nat.ne_of_gt (bL (g := a4) (o := .cells #[.int .i64 b4, .int .i64 b5, .int .i64 b6, .int .i64 b7] 44 (0, 0)) (by (with_reducible repeat (first | refine bN ?_ _ | refine bD ?_ | refine bA ?_ _)); exact a6.out)) : d7 ≠ a4)); have g5 := aM ((by rw [hg]; exact Nat.ne_of_lt (bL (g := a5) (o := .cells #[.int .i64 d3, .int .i64 d4, .int .i64 d5, .int .i64 d6] 44 (0, 0)) (by (with_reducible repeat (first | refine bN ?_ _ | refine bD ?_ | refine bA ?_ _)); exact a7.out)) : a5 ≠ d7)); have g6 := aM ((by rw [hg]; exact Nat.ne_of_gt (bL (g := a5) (o := .cells #[.int .i64 d3, .int .i64 d4, .int .i64 d5, .int .i64 d6] 44 (0, 0)) (by (with_reducible repeat (first | refine bN ?_ _ | refine bD ?_ | refine bA ?_ _)); exact a7.out)) : d7 ≠ a5)); clear a1; clear a3; clear a6; clear a7; clear HB; have a1 := n0_; have a3 := n1_; have a6 := n2_; have a7 := n3_; have HB := n4_; have c1 := n5_; have D3 := n6_; have g7 := n7_; have g8 := n8_; have l9 := n9_; have g9 := e7; have m0 := e8; have h0 := e9; have m1 := g4; have h1 := g5; have m2 := g6; clear n0_ n1_ n2_ n3_ n4_ n5_ n6_ n7_ n8_ n9_ e7 e8 e9 g4 g5 g6; clear hb hbox hg; have D4 := l9.out; have D5 := g8.out; have D6 := m0.out; have D7 := g9.out; have D8 := m1.out; have D9 := h0.out; have E0 := m2.out; have E1 := h1.out; have x4 : w41.cell? ⟨d7, 0, none⟩ = some (.int .i64 0) := (blk_cell c1.out 0).trans rfl; have x5 : w41.cell? ⟨d7, 1, none⟩ = some (.int .i64 0) := (blk_cell c1.out 1).trans rfl; have x6 : w41.cell? ⟨d7, 2, none⟩ = some (.int .i64 0) := (blk_cell c1.out 2).trans rfl; have x7 : w41.cell? ⟨d7, 3, none⟩ = some (.int .i64 0) := (blk_cell c1.out 3).trans rfl; have x8 := blk_frozen c1.out 0; have x9 := blk_frozen c1.out 1; have y0 := blk_frozen c1.out 2; have y1 := blk_frozen c1.out 3; have y2 : w41.cell? ⟨a4, 0, none⟩ = some (.int .i64 b4) := (blk_cell a6.out 0).trans rfl; have y3 : w41.cell? ⟨a4, 1, none⟩ = some (.int .i64 b5) := (blk_cell a6.out 1).trans rfl; have y4 : w41.cell? ⟨a4, 2, none⟩ = some (.int .i64 b6) := (blk_cell a6.out 2).trans rfl; have y5 : w41.cell? ⟨a4, 3, none⟩ = some (.int .i64 b7) := (blk_cell a6.out 3).trans rfl; have y6 := blk_frozen a6.out 0; have y7 := blk_frozen a6.out 1; have y8 := blk_frozen a6.out 2; have y9 := blk_frozen a6.out 3) | ((with_reducible refine gC (f := 30) rfl ?_); refine gL (some 27) rfl rfl Tryd.func30 (by kernel_rfl) rfl #[.agg #[.int .i64 b4, .int .i64 b5, .int .i64 b6, .int .i64 b7], .agg #[.int .i64 b4, .int .i64 b5, .int .i64 b6, .int .i64 b7]] rfl (by (try simp only [List.map_toArray, List.map_cons, List.map_nil]); first | done | rfl | (simp only [List.length_drop, List.length_take]; rfl)) ?_; (with_reducible refine (impl_RGUnion.calls b4 b5 b6 b7 b4 b5 b6 b7 d9 e4 e5 e6 true true _ A6.out).mono ?_); rintro e w48 ⟨rfl, hb⟩; refine ⟨_, rfl, ?_⟩; have n0_ := aM (bB (g := a0) (o := .cells #[.int .i64 a0_0, .int .i64 a0_1, .int .i64 a0_2, .int .i64 a0_3] 44 (0, 0)) (by (with_reducible repeat (first | refine bN ?_ _ | refine bD ?_ | refine bA ?_ _)); refine blk_far ?_ g8.out _; (with_reducible repeat (first | refine bN ?_ _ | refine bD ?_ | refine bA ?_ _)); refine blk_far ?_ g8.out _; (with_reducible repeat (first | refine bN ?_ _ | refine bD ?_ | refine bA ?_ _)); refine blk_far ?_ g8.out _; (with_reducible repeat (first | refine bN ?_ _ | refine bD ?_ | refine bA ?_ _)); refine blk_far ?_ g8.out _; (with_reducible repeat (first | refine bN ?_ _ | refine bD ?_ | refine bA ?_ _)); exact a1.out) hb); have n1_ := aM (bB (g := a2) (o := .cells #[.int .i64 a1_0, .int .i64 a1_1, .int .i64 a1_2, .int .i64 a1_3] 44 (0, 0)) (by (with_reducible repeat (first | refine bN ?_ _ | refine bD ?_ | refine bA ?_ _)); refine blk_far ?_ g9.out _; (with_reducible repeat (first | refine bN ?_ _ | refine bD ?_ | refine bA ?_ _)); refine blk_far ?_ g9.out _; (with_reducible repeat (first | refine bN ?_ _ | refine bD ?_ | refine bA ?_ _)); refine blk_far ?_ g9.out _; (with_reducible repeat (first | refine bN ?_ _ | refine bD ?_ | refine bA ?_ _)); refine blk_far ?_ g9.out _; (with_reducible repeat (first | refine bN ?_ _ | refine bD ?_ | refine bA ?_ _)); exact a3.out) hb); have n2_ := aM (bB (g := a4) (o := .cells #[.int .i64 b4, .int .i64 b5, .int .i64 b6, .int .i64 b7] 44 (0, 0)) (by (with_reducible repeat (first | refine bN ?_ _ | refine bD ?_ | refine bA ?_ _)); refine blk_far ?_ h0.out _; (with_reducible repeat (first | refine bN ?_ _ | refine bD ?_ | refine bA ?_ _)); refine blk_far ?_ h0.out _; (with_reducible repeat (first | refine bN ?_ _ | refine bD ?_ | refine bA ?_ _)); refine blk_far ?_ h0.out _; (with_reducible repeat (first | refine bN ?_ _ | refine bD ?_ | refine bA ?_ _)); refine blk_far ?_ h0.out _; (with_reducible repeat (first | refine bN ?_ _ | refine bD ?_ | refine bA ?_ _)); exact a6.out) hb); have n3_ := aM (bB (g := a5) (o := .cells #[.int .i64 d3, .int .i64 d4, .int .i64 d5, .int .i64 d6] 44 (0, 0)) (by (with_reducible repeat (first | refine bN ?_ _ | refine bD ?_ | refine bA ?_ _)); refine blk_far ?_ h1.out _; (with_reducible repeat (first | refine bN ?_ _ | refine bD ?_ | refine bA ?_ _)); refine blk_far ?_ h1.out _; (with_reducible repeat (first | refine bN ?_ _ | refine bD ?_ | refine bA ?_ _)); refine blk_far ?_ h1.out _; (with_reducible repeat (first | refine bN ?_ _ | refine bD ?_ | refine bA ?_ _)); refine blk_far ?_ h1.out _; (with_reducible repeat (first | refine bN ?_ _ | refine bD ?_ | refine bA ?_ _)); exact a7.out) hb); have n4_ := aM (bB (g := d7) (o := .cells #[.int .i64 f6, .int .i64 f8, .int .i64 g0, .int .i64 g1] 44 (0, 0)) (by (with_reducible repeat (first | refine bN ?_ _ | refine bD ?_ | refine bA ?_ _)); refine blk_put (cs := #[.int .i64 f6, .int .i64 f8, .int .i64 g0, .int .i64 0]) ?_ 3 _ rfl; (with_reducible repeat (first | refine bN ?_ _ | refine bD ?_ | refine bA ?_ _)); refine blk_put (cs := #[.int .i64 f6, .int .i64 f8, .int .i64 0, .int .i64 0]) ?_ 2 _ rfl; (with_reducible repeat (first | refine bN ?_ _ | refine bD ?_ | refine bA ?_ _)); refine blk_put (cs := #[.int .i64 f6, .int .i64 0, .int .i64 0, .int .i64 0]) ?_ 1 _ rfl; (with_reducible repeat (first | refine bN ?_ _ | refine bD ?_ | refine bA ?_ _)); refine blk_put (cs := #[.int .i64 0, .int .i64 0, .int .i64 0, .int .i64 0]) ?_ 0 _ rfl; (with_reducible repeat (first | refine bN ?_ _ | refine bD ?_ | refine bA ?_ _)); exact c1.out) hb); have n5_ := aM (wP (by repeat (first | (with_reducible first | exact HB.out | apply wA | apply wN | apply wD | refine wS ?_ b2.out | refine wS ?_ b3.out | refine wS ?_ b8.out | refine wS ?_ b9.out | refine wS ?_ g7.out) | exact HB.out)) hb); clear a1; clear a3; clear a6; clear a7; clear c1; clear HB; have a1 := n0_; have a3 := n1_; have a6 := n2_; have a7 := n3_; have c1 := n4_; have HB := n5_; clear n0_ n1_ n2_ n3_ n4_ n5_; (try clear hb); (try clear hb2); (try clear hk); (try clear hi)) | ((with_reducible refine gate_dst (N := 10) rfl ?_); refine box_event ?hg (N := 10) ?hd (cs := #[.int .i64 0, .int .i64 0, .int .i64 0, .int .i64 0]) (t := 44) ?hr ?_; (case hd => rfl); (case hg => rfl); (case hr => first | (go_simp; done) | (go_simp; rfl)); intro c0 hg w49 hbox hb; have n0_ := aM (bB (g := a0) (o := .cells #[.int .i64 a0_0, .int .i64 a0_1, .int .i64 a0_2, .int .i64 a0_3] 44 (0, 0)) (by (with_reducible repeat (first | refine bN ?_ _ | refine bD ?_ | refine bA ?_ _)); exact a1.out) hb); have n1_ := aM (bB (g := a2) (o := .cells #[.int .i64 a1_0, .int .i64 a1_1, .int .i64 a1_2, .int .i64 a1_3] 44 (0, 0)) (by (with_reducible repeat (first | refine bN ?_ _ | refine bD ?_ | refine bA ?_ _)); exact a3.out) hb); have n2_ := aM (bB (g := a4) (o := .cells #[.int .i64 b4, .int .i64 b5, .int .i64 b6, .int .i64 b7] 44 (0, 0)) (by (with_reducible repeat (first | refine bN ?_ _ | refine bD ?_ | refine bA ?_ _)); exact a6.out) hb); have n3_ := aM (bB (g := a5) (o := .cells #[.int .i64 d3, .int .i64 d4, .int .i64 d5, .int .i64 d6] 44 (0, 0)) (by (with_reducible repeat (first | refine bN ?_ _ | refine bD ?_ | refine bA ?_ _)); exact a7.out) hb); have n4_ := aM (bB (g := d7) (o := .cells #[.int .i64 f6, .int .i64 f8, .int .i64 g0, .int .i64 g1] 44 (0, 0)) (by (with_reducible repeat (first | refine bN ?_ _ | refine bD ?_ | refine bA ?_ _)); exact c1.out) hb); have n5_ := aM (wP (by repeat (first | (with_reducible first | exact HB.out | apply wA | apply wN | apply wD | refine wS ?_ b2.out | refine wS ?_ b3.out | refine wS ?_ b8.out | refine wS ?_ b9.out | refine wS ?_ g7.out) | exact HB.out)) hb); have n6_ := aM (hbox); have n7_ := aM ((by rw [hg]; exact (below_size (by repeat (first | (with_reducible first | exact HB.out | apply wA | apply wN | apply wD | refine wS ?_ b2.out | refine wS ?_ b3.out | refine wS ?_ b8.out | refine wS ?_ b9.out | refine wS ?_ g7.out) | exact HB.out))) : w.heap.size ≤ c0)); have n8_ := aM ((by rw [hg]; exact (below_size (by repeat (first | (with_reducible first | exact HB.out | apply wA | apply wN | apply wD | refine wS ?_ b2.out | refine wS ?_ b3.out | refine wS ?_ b8.out | refine wS ?_ b9.out | refine wS ?_ g7.out) | exact HB.out))) : w.heap.size ≤ c0)); have n9_ := aM ((by rw [hg]; exact Nat.ne_of_lt (bL (g := a0) (o := .cells #[.int .i64 a0_0, .int .i64 a0_1, .int .i64 a0_2, .int .i64 a0_3] 44 (0, 0)) (by (with_reducible repeat (first | refine bN ?_ _ | refine bD ?_ | refine bA ?_ _)); exact a1.out)) : a0 ≠ c0)); have e7 := aM ((by rw [hg]; exact Nat.ne_of_gt (bL (g := a0) (o := .cells #[.int .i64 a0_0, .int .i64 a0_1, .int .i64 a0_2, .int .i64 a0_3] 44 (0, 0)) (by (with_reducible repeat (first | refine bN ?_ _ | refine bD ?_ | refine bA ?_ _)); exact a1.out)) : c0 ≠ a0)); have e8 := aM ((by rw [hg]; exact Nat.ne_of_lt (bL (g := a2) (o := .cells #[.int .i64 a1_0, .int .i64 a1_1, .int .i64 a1_2, .int .i64 a1_3] 44 (0, 0)) (by (with_reducible repeat (first | refine bN ?_ _ | refine bD ?_ | refine bA ?_ _)); exact a3.out)) : a2 ≠ c0)); have e9 := aM ((by rw [hg]; exact Nat.ne_of_gt (bL (g := a2) (o := .cells #[.int .i64 a1_0, .int .i64 a1_1, .int .i64 a1_2, .int .i64 a1_3] 44 (0, 0)) (by (with_reducible repeat (first | refine bN ?_ _ | refine bD ?_ | refine bA ?_ _)); exact a3.out)) : c0 ≠ a2)); have g4 := aM ((by rw [hg]; exact Nat.ne_of_lt (bL (g := a4) (o := .cells #[.int .i64 b4, .int .i64 b5, .int .i64 b6, .int .i64 b7] 44 (0, 0)) (by (with_reducible repeat (first | refine bN ?_ _ | refine bD ?_ | refine bA ?_ _)); exact a6.out)) : a4 ≠ c0)); have g5 := aM ((by rw [hg]; exact Nat.ne_of_gt (bL (g := a4) (o := .cells #[.int .i64 b4, .int .i64 b5, .int .i64 b6, .int .i64 b7] 44 (0, 0)) (by (with_reducible repeat (first | refine bN ?_ _ | refine bD ?_ | refine bA ?_ _)); exact a6.out)) : c0 ≠ a4)); have g6 := aM ((by rw [hg]; exact Nat.ne_of_lt (bL (g := a5) (o := .cells #[.int .i64 d3, .int .i64 d4, .int .i64 d5, .int .i64 d6] 44 (0, 0)) (by (with_reducible repeat (first | refine bN ?_ _ | refine bD ?_ | refine bA ?_ _)); exact a7.out)) : a5 ≠ c0)); have h7 := aM ((by rw [hg]; exact Nat.ne_of_gt (bL (g := a5) (o := .cells #[.int .i64 d3, .int .i64 d4, .int .i64 d5, .int .i64 d6] 44 (0, 0)) (by (with_reducible repeat (first | refine bN ?_ _ | refine bD ?_ | refine bA ?_ _)); exact a7.out)) : c0 ≠ a5)); have h8 := aM ((by rw [hg]; exact Nat.ne_of_lt (bL (g := d7) (o := .cells #[.int .i64 f6, .int .i64 f8, .int .i64 g0, .int .i64 g1] 44 (0, 0)) (by (with_reducible repeat (first | refine bN ?_ _ | refine bD ?_ | refine bA ?_ _)); exact c1.out)) : d7 ≠ c0)); have h9 := aM ((by rw [hg]; exact Nat.ne_of_gt (bL (g := d7) (o := .cells #[.int .i64 f6, .int .i64 f8, .int .i64 g0, .int .i64 g1] 44 (0, 0)) (by (with_reducible repeat (first | refine bN ?_ _ | refine bD ?_ | refine bA ?_ _)); exact c1.out)) : c0 ≠ d7)); clear a1; clear a3; clear a6; clear a7; clear c1; clear HB; have a1 := n0_; have a3 := n1_; have a6 := n2_; have a7 := n3_; have c1 := n4_; have HB := n5_; have d1 := n6_; have E2 := n7_; have l0 := n8_; have h2 := n9_; have m3 := e7; have h3 := e8; have m4 := e9; have h4 := g4; have m5 := g5; have h5 := g6; have m6 := h7; have h6 := h8; have m7 := h9; clear n0_ n1_ n2_ n3_ n4_ n5_ n6_ n7_ n8_ n9_ e7 e8 e9 g4 g5 g6 h7 h8 h9; clear hb hbox hg; have E3 := m3.out; have E4 := h2.out; have E5 := m4.out; have E6 := h3.out; have E7 := m5.out; have E8 := h4.out; have E9 := m6.out; have F0 := h5.out; have F1 := m7.out; have F2 := h6.out; have A0 : w49.cell? ⟨c0, 0, none⟩ = some (.int .i64 0) := (blk_cell d1.out 0).trans rfl; have A1 : w49.cell? ⟨c0, 1, none⟩ = some (.int .i64 0) := (blk_cell d1.out 1).trans rfl; have A2 : w49.cell? ⟨c0, 2, none⟩ = some (.int .i64 0) := (blk_cell d1.out 2).trans rfl; have A7 : w49.cell? ⟨c0, 3, none⟩ = some (.int .i64 0) := (blk_cell d1.out 3).trans rfl; have A8 := blk_frozen d1.out 0; have B0 := blk_frozen d1.out 1; have B1 := blk_frozen d1.out 2; have B2 := blk_frozen d1.out 3))
       have n0_ : Aside0 (((((w49.setCell ⟨c0, 0, none⟩ (.int .i64 d9)).setCell ⟨c0, 1, none⟩ (.int .i64 e4)).setCell ⟨c0, 2, none⟩ (.int .i64 e5)).setCell ⟨c0, 3, none⟩ (.int .i64 e6)).heap[a0]? = some (.cells #[.int .i64 a0_0, .int .i64 a0_1, .int .i64 a0_2, .int .i64 a0_3] 44 (0, 0))) := ⟨by (with_reducible repeat (first | refine bN ?_ _ | refine bD ?_ | refine bA ?_ _)); refine blk_far ?_ h2.out _; (with_reducible repeat (first | refine bN ?_ _ | refine bD ?_ | refine bA ?_ _)); refine blk_far ?_ h2.out _; (with_reducible repeat (first | refine bN ?_ _ | refine bD ?_ | refine bA ?_ _)); refine blk_far ?_ h2.out _; (with_reducible repeat (first | refine bN ?_ _ | refine bD ?_ | refine bA ?_ _)); refine blk_far ?_ h2.out _; (with_reducible repeat (first | refine bN ?_ _ | refine bD ?_ | refine bA ?_ _)); exact a1.out⟩
       have n1_ : Aside0 (((((w49.setCell ⟨c0, 0, none⟩ (.int .i64 d9)).setCell ⟨c0, 1, none⟩ (.int .i64 e4)).setCell ⟨c0, 2, none⟩ (.int .i64 e5)).setCell ⟨c0, 3, none⟩ (.int .i64 e6)).heap[a2]? = some (.cells #[.int .i64 a1_0, .int .i64 a1_1, .int .i64 a1_2, .int .i64 a1_3] 44 (0, 0))) := ⟨by (with_reducible repeat (first | refine bN ?_ _ | refine bD ?_ | refine bA ?_ _)); refine blk_far ?_ h3.out _; (with_reducible repeat (first | refine bN ?_ _ | refine bD ?_ | refine bA ?_ _)); refine blk_far ?_ h3.out _; (with_reducible repeat (first | refine bN ?_ _ | refine bD ?_ | refine bA ?_ _)); refine blk_far ?_ h3.out _; (with_reducible repeat (first | refine bN ?_ _ | refine bD ?_ | refine bA ?_ _)); refine blk_far ?_ h3.out _; (with_reducible repeat (first | refine bN ?_ _ | refine bD ?_ | refine bA ?_ _)); exact a3.out⟩
       have n2_ : Aside0 (((((w49.setCell ⟨c0, 0, none⟩ (.int .i64 d9)).setCell ⟨c0, 1, none⟩ (.int .i64 e4)).setCell ⟨c0, 2, none⟩ (.int .i64 e5)).setCell ⟨c0, 3, none⟩ (.int .i64 e6)).heap[a4]? = some (.cells #[.int .i64 b4, .int .i64 b5, .int .i64 b6, .int .i64 b7] 44 (0, 0))) := ⟨by (with_reducible repeat (first | refine bN ?_ _ | refine bD ?_ | refine bA ?_ _)); refine blk_far ?_ h4.out _; (with_reducible repeat (first | refine bN ?_ _ | refine bD ?_ | refine bA ?_ _)); refine blk_far ?_ h4.out _; (with_reducible repeat (first | refine bN ?_ _ | refine bD ?_ | refine bA ?_ _)); refine blk_far ?_ h4.out _; (with_reducible repeat (first | refine bN ?_ _ | refine bD ?_ | refine bA ?_ _)); refine blk_far ?_ h4.out _; (with_reducible repeat (first | refine bN ?_ _ | refine bD ?_ | refine bA ?_ _)); exact a6.out⟩
       have n3_ : Aside0 (((((w49.setCell ⟨c0, 0, none⟩ (.int .i64 d9)).setCell ⟨c0, 1, none⟩ (.int .i64 e4)).setCell ⟨c0, 2, none⟩ (.int .i64 e5)).setCell ⟨c0, 3, none⟩ (.int .i64 e6)).heap[a5]? = some (.cells #[.int .i64 d3, .int .i64 d4, .int .i64 d5, .int .i64 d6] 44 (0, 0))) := ⟨by (with_reducible repeat (first | refine bN ?_ _ | refine bD ?_ | refine bA ?_ _)); refine blk_far ?_ h5.out _; (with_reducible repeat (first | refine bN ?_ _ | refine bD ?_ | refine bA ?_ _)); refine blk_far ?_ h5.out _; (with_reducible repeat (first | refine bN ?_ _ | refine bD ?_ | refine bA ?_ _)); refine blk_far ?_ h5.out _; (with_reducible repeat (first | refine bN ?_ _ | refine bD ?_ | refine bA ?_ _)); refine blk_far ?_ h5.out _; (with_reducible repeat (first | refine bN ?_ _ | refine bD ?_ | refine bA ?_ _)); exact a7.out⟩
       have n4_ : Aside0 (((((w49.setCell ⟨c0, 0, none⟩ (.int .i64 d9)).setCell ⟨c0, 1, none⟩ (.int .i64 e4)).setCell ⟨c0, 2, none⟩ (.int .i64 e5)).setCell ⟨c0, 3, none⟩ (.int .i64 e6)).heap[d7]? = some (.cells #[.int .i64 f6, .int .i64 f8, .int .i64 g0, .int .i64 g1] 44 (0, 0))) := ⟨by (with_reducible repeat (first | refine bN ?_ _ | refine bD ?_ | refine bA ?_ _)); refine blk_far ?_ h6.out _; (with_reducible repeat (first | refine bN ?_ _ | refine bD ?_ | refine bA ?_ _)); refine blk_far ?_ h6.out _; (with_reducible repeat (first | refine bN ?_ _ | refine bD ?_ | refine bA ?_ _)); refine blk_far ?_ h6.out _; (with_reducible repeat (first | refine bN ?_ _ | refine bD ?_ | refine bA ?_ _)); refine blk_far ?_ h6.out _; (with_reducible repeat (first | refine bN ?_ _ | refine bD ?_ | refine bA ?_ _)); exact c1.out⟩
       have n5_ : Aside0 (((((w49.setCell ⟨c0, 0, none⟩ (.int .i64 d9)).setCell ⟨c0, 1, none⟩ (.int .i64 e4)).setCell ⟨c0, 2, none⟩ (.int .i64 e5)).setCell ⟨c0, 3, none⟩ (.int .i64 e6)).heap[c0]? = some (.cells #[.int .i64 d9, .int .i64 e4, .int .i64 e5, .int .i64 e6] 44 (0, 0))) := ⟨by (with_reducible repeat (first | refine bN ?_ _ | refine bD ?_ | refine bA ?_ _)); refine blk_put (cs := #[.int .i64 d9, .int .i64 e4, .int .i64 e5, .int .i64 0]) ?_ 3 _ rfl; (with_reducible repeat (first | refine bN ?_ _ | refine bD ?_ | refine bA ?_ _)); refine blk_put (cs := #[.int .i64 d9, .int .i64 e4, .int .i64 0, .int .i64 0]) ?_ 2 _ rfl; (with_reducible repeat (first | refine bN ?_ _ | refine bD ?_ | refine bA ?_ _)); refine blk_put (cs := #[.int .i64 d9, .int .i64 0, .int .i64 0, .int .i64 0]) ?_ 1 _ rfl; (with_reducible repeat (first | refine bN ?_ _ | refine bD ?_ | refine bA ?_ _)); refine blk_put (cs := #[.int .i64 0, .int .i64 0, .int .i64 0, .int .i64 0]) ?_ 0 _ rfl; (with_reducible repeat (first | refine bN ?_ _ | refine bD ?_ | refine bA ?_ _)); exact d1.out⟩
       have n6_ : Aside0 (Below w.heap.size w ((((w49.setCell ⟨c0, 0, none⟩ (.int .i64 d9)).setCell ⟨c0, 1, none⟩ (.int .i64 e4)).setCell ⟨c0, 2, none⟩ (.int .i64 e5)).setCell ⟨c0, 3, none⟩ (.int .i64 e6))) := ⟨by repeat (first | (with_reducible first | exact HB.out | apply wA | apply wN | apply wD | refine wS ?_ b2.out | refine wS ?_ b3.out | refine wS ?_ b8.out | refine wS ?_ b9.out | refine wS ?_ g7.out | refine wS ?_ l0.out) | exact HB.out)⟩
       (try clear a1)
       (try clear a3)
       (try clear a6)
       (try clear a7)
       (try clear c1)
       (try clear d1)
       (try clear HB)
       generalize ((((w49.setCell ⟨c0, 0, none⟩ (.int .i64 d9)).setCell ⟨c0, 1, none⟩ (.int .i64 e4)).setCell ⟨c0, 2, none⟩ (.int .i64 e5)).setCell ⟨c0, 3, none⟩ (.int .i64 e6)) = w56 at n0_ n1_ n2_ n3_ n4_ n5_ n6_ ⊢
       have a1 := n0_
       have a3 := n1_
       have a6 := n2_
       have a7 := n3_
       have c1 := n4_
       have d1 := n5_
       have HB := n6_
       clear n0_ n1_ n2_ n3_ n4_ n5_ n6_
       have n0_ := aM (bD a1.out)
       have n1_ := aM (bD a3.out)
       have n2_ := aM (bD a6.out)
       have n3_ := aM (bD a7.out)
       have n4_ := aM (bD c1.out)
       have n5_ := aM (bD d1.out)
       have n6_ := aM (wD HB.out)
       clear a1
       clear a3
       clear a6
       clear a7
       clear c1
       clear d1
       clear HB
       have a1 := n0_
       have a3 := n1_
       have a6 := n2_
       have a7 := n3_
       have c1 := n4_
       have d1 := n5_
       have HB := n6_
       clear n0_ n1_ n2_ n3_ n4_ n5_ n6_
       refine start_ (n := 31) (S := fun w' => w'.cell? ⟨a4, 0, none⟩ = some (.int .i64 b4) ∧ w'.cell? ⟨a4, 1, none⟩ = some (.int .i64 b5) ∧ w'.cell? ⟨a4, 2, none⟩ = some (.int .i64 b6) ∧ w'.cell? ⟨a4, 3, none⟩ = some (.int .i64 b7) ∧ w'.cell? ⟨a5, 0, none⟩ = some (.int .i64 d3) ∧ w'.cell? ⟨a5, 1, none⟩ = some (.int .i64 d4) ∧ w'.cell? ⟨a5, 2, none⟩ = some (.int .i64 d5) ∧ w'.cell? ⟨a5, 3, none⟩ = some (.int .i64 d6) ∧ w'.cell? ⟨d7, 0, none⟩ = some (.int .i64 f6) ∧ w'.cell? ⟨d7, 1, none⟩ = some (.int .i64 f8) ∧ w'.cell? ⟨d7, 2, none⟩ = some (.int .i64 g0) ∧ w'.cell? ⟨d7, 3, none⟩ = some (.int .i64 g1) ∧ w'.cell? ⟨c0, 0, none⟩ = some (.int .i64 d9) ∧ w'.cell? ⟨c0, 1, none⟩ = some (.int .i64 e4) ∧ w'.cell? ⟨c0, 2, none⟩ = some (.int .i64 e5) ∧ w'.cell? ⟨c0, 3, none⟩ = some (.int .i64 e6)) (ds := []) #[false, false, false, false, false, false, false, false, false, false, false, false, false, false, false, false, false, false, false, false, false, false, false, false, false, false, false, false, false, false, false] (by kernel_rfl) rfl rfl ⟨(blk_cell a6.out 0).trans rfl, (blk_cell a6.out 1).trans rfl, (blk_cell a6.out 2).trans rfl, (blk_cell a6.out 3).trans rfl, (blk_cell a7.out 0).trans rfl, (blk_cell a7.out 1).trans rfl, (blk_cell a7.out 2).trans rfl, (blk_cell a7.out 3).trans rfl, (blk_cell c1.out 0).trans rfl, (blk_cell c1.out 1).trans rfl, (blk_cell c1.out 2).trans rfl, (blk_cell c1.out 3).trans rfl, (blk_cell d1.out 0).trans rfl, (blk_cell d1.out 1).trans rfl, (blk_cell d1.out 2).trans rfl, (blk_cell d1.out 3).trans rfl⟩ (fun hHeld => ?_); refine with_tabW laws_FnRGUnion.tab4 laws_FnRGUnion.bits4 (fun HT_ HW_ => ?_)
       generalize w56.drew = w57 at a1 a3 a6 a7 c1 d1 HB hHeld ⊢
       refine pure_ (i := 0) (N := some 31) (v := ?_) (a' := ?_) #[true, false, false, false, false, false, false, false, false, false, false, false, false, false, false, false, false, false, false, false, false, false, false, false, false, false, false, false, false, false, false] rfl rfl (any_of HT_.out (by kernel_rfl)) (fun _ _ _ h => h) (Or.inl ⟨by rfl, ?_⟩) ?_ ?_
       rotate_left
       ·intro w'
        go_simp
        with_reducible rfl
       rotate_left
       ·simp only [Act.put, List.setIfInBounds_toArray, List.set_cons_zero, List.set_cons_succ, i64_w, i32_w]
        rfl
       refine pure_ (i := 1) (N := some 32) (v := ?_) (a' := ?_) #[true, true, false, false, false, false, false, false, false, false, false, false, false, false, false, false, false, false, false, false, false, false, false, false, false, false, false, false, false, false, false] rfl rfl (any_of HT_.out (by kernel_rfl)) (fun _ _ _ h => h) (Or.inl ⟨by rfl, ?_⟩) ?_ ?_
       rotate_left
       ·intro w'
        go_simp
        with_reducible rfl
       rotate_left
       ·simp only [Act.put, List.setIfInBounds_toArray, List.set_cons_zero, List.set_cons_succ, i64_w, i32_w]
        rfl
       refine pure_ (i := 2) (N := some 33) (v := ?_) (a' := ?_) #[true, true, true, false, false, false, false, false, false, false, false, false, false, false, false, false, false, false, false, false, false, false, false, false, false, false, false, false, false, false, false] rfl rfl (any_of HT_.out (by kernel_rfl)) (fun _ _ _ h => h) (Or.inl ⟨by rfl, ?_⟩) ?_ ?_
       rotate_left
       ·intro w'
        go_simp
        with_reducible rfl
       rotate_left
       ·simp only [Act.put, List.setIfInBounds_toArray, List.set_cons_zero, List.set_cons_succ, i64_w, i32_w]
        rfl
       refine pure_ (i := 3) (N := some 34) (v := ?_) (a' := ?_) #[true, true, true, true, false, false, false, false, false, false, false, false, false, false, false, false, false, false, false, false, false, false, false, false, false, false, false, false, false, false, false] rfl rfl (any_of HT_.out (by kernel_rfl)) (fun _ _ _ h => h) (Or.inl ⟨by rfl, ?_⟩) ?_ ?_
       rotate_left
       ·intro w'
        go_simp
        with_reducible rfl
       rotate_left
       ·simp only [Act.put, List.setIfInBounds_toArray, List.set_cons_zero, List.set_cons_succ, i64_w, i32_w]
        rfl
       refine pure_ (i := 4) (N := some 35) (v := ?_) (a' := ?_) #[true, true, true, true, true, false, false, false, false, false, false, false, false, false, false, false, false, false, false, false, false, false, false, false, false, false, false, false, false, false, false] rfl rfl (any_of HT_.out (by kernel_rfl)) (fun _ _ _ h => h) (Or.inl ⟨by rfl, ?_⟩) ?_ ?_
       rotate_left
       ·intro w'
        go_simp
        with_reducible rfl
       rotate_left
       ·simp only [Act.put, List.setIfInBounds_toArray, List.set_cons_zero, List.set_cons_succ, i64_w, i32_w]
        rfl
       refine pure_ (i := 5) (N := some 36) (v := ?_) (a' := ?_) #[true, true, true, true, true, true, false, false, false, false, false, false, false, false, false, false, false, false, false, false, false, false, false, false, false, false, false, false, false, false, false] rfl rfl (any_of HT_.out (by kernel_rfl)) (fun _ _ _ h => h) (Or.inl ⟨by rfl, ?_⟩) ?_ ?_
       rotate_left
       ·intro w'
        go_simp
        with_reducible rfl
       rotate_left
       ·simp only [Act.put, List.setIfInBounds_toArray, List.set_cons_zero, List.set_cons_succ, i64_w, i32_w]
        rfl
       refine take_ (i := 6) (N := some 37) (v := ?_) (a' := ?_) #[true, true, true, true, true, true, true, false, false, false, false, false, false, false, false, false, false, false, false, false, false, false, false, false, false, false, false, false, false, false, false] rfl rfl (take_ofW HT_.out HW_.out (by kernel_rfl)) (fun _ _ _ h => h) (Or.inl ⟨by rfl, ?_⟩) hHeld ?_ ?_
       rotate_left
       ·rintro w' ⟨s0, s1, s2, s3, s4, s5, s6, s7, s8, s9, s10, s11, s12, s13, s14, s15⟩
        go_simp
        with_reducible rfl
       rotate_left
       ·simp only [Act.put, List.setIfInBounds_toArray, List.set_cons_zero, List.set_cons_succ, i64_w, i32_w]
        rfl
       refine take_ (i := 7) (N := some 38) (v := ?_) (a' := ?_) #[true, true, true, true, true, true, true, true, false, false, false, false, false, false, false, false, false, false, false, false, false, false, false, false, false, false, false, false, false, false, false] rfl rfl (take_ofW HT_.out HW_.out (by kernel_rfl)) (fun _ _ _ h => h) (Or.inl ⟨by rfl, ?_⟩) hHeld ?_ ?_
       rotate_left
       ·rintro w' ⟨s0, s1, s2, s3, s4, s5, s6, s7, s8, s9, s10, s11, s12, s13, s14, s15⟩
        go_simp
        with_reducible rfl
       rotate_left
       ·simp only [Act.put, List.setIfInBounds_toArray, List.set_cons_zero, List.set_cons_succ, i64_w, i32_w]
        rfl
       refine one_ (i := 8) (N := some 39) #[true, true, true, true, true, true, true, true, true, false, false, false, false, false, false, false, false, false, false, false, false, false, false, false, false, false, false, false, false, false, false] rfl rfl (one_of HT_.out (by kernel_rfl)) (by decide) (fun K hK => ?_)
       refine goes_ Tryd.func29 (by kernel_rfl) rfl #[.agg #[.int .i64 b4, .int .i64 b5, .int .i64 b6, .int .i64 b7], .agg #[.int .i64 d3, .int .i64 d4, .int .i64 d5, .int .i64 d6]] (by rfl) rfl rfl (by (try simp only [List.map_toArray, List.map_cons, List.map_nil]); first | done | rfl | (simp only [List.length_drop, List.length_take]; rfl)) ?_
       with_reducible refine (spec_RGTouch.calls k b4 b5 b6 b7 d3 d4 d5 d6 f5 _ A9.out).mono ?_
       rintro e w58 ⟨rfl, hb⟩
       refine ⟨_, rfl, ?_⟩
       have n0_ := aM (bB (g := a0) (o := .cells #[.int .i64 a0_0, .int .i64 a0_1, .int .i64 a0_2, .int .i64 a0_3] 44 (0, 0)) (by (with_reducible repeat (first | refine bN ?_ _ | refine bD ?_ | refine bA ?_ _)); exact a1.out) hb)
       have n1_ := aM (bB (g := a2) (o := .cells #[.int .i64 a1_0, .int .i64 a1_1, .int .i64 a1_2, .int .i64 a1_3] 44 (0, 0)) (by (with_reducible repeat (first | refine bN ?_ _ | refine bD ?_ | refine bA ?_ _)); exact a3.out) hb)
       have n2_ := aM (bB (g := a4) (o := .cells #[.int .i64 b4, .int .i64 b5, .int .i64 b6, .int .i64 b7] 44 (0, 0)) (by (with_reducible repeat (first | refine bN ?_ _ | refine bD ?_ | refine bA ?_ _)); exact a6.out) hb)
       have n3_ := aM (bB (g := a5) (o := .cells #[.int .i64 d3, .int .i64 d4, .int .i64 d5, .int .i64 d6] 44 (0, 0)) (by (with_reducible repeat (first | refine bN ?_ _ | refine bD ?_ | refine bA ?_ _)); exact a7.out) hb)
       have n4_ := aM (bB (g := d7) (o := .cells #[.int .i64 f6, .int .i64 f8, .int .i64 g0, .int .i64 g1] 44 (0, 0)) (by (with_reducible repeat (first | refine bN ?_ _ | refine bD ?_ | refine bA ?_ _)); exact c1.out) hb)
       have n5_ := aM (bB (g := c0) (o := .cells #[.int .i64 d9, .int .i64 e4, .int .i64 e5, .int .i64 e6] 44 (0, 0)) (by (with_reducible repeat (first | refine bN ?_ _ | refine bD ?_ | refine bA ?_ _)); exact d1.out) hb)
       have n6_ := aM (wP (by repeat (first | (with_reducible first | exact HB.out | apply wA | apply wN | apply wD | refine wS ?_ b2.out | refine wS ?_ b3.out | refine wS ?_ b8.out | refine wS ?_ b9.out | refine wS ?_ g7.out | refine wS ?_ l0.out) | exact HB.out)) hb)
       clear a1
       clear a3
       clear a6
       clear a7
       clear c1
       clear d1
       clear HB
       have a1 := n0_
       have a3 := n1_
       have a6 := n2_
       have a7 := n3_
       have c1 := n4_
       have d1 := n5_
       have HB := n6_
       clear n0_ n1_ n2_ n3_ n4_ n5_ n6_
       (try clear hb)
       (try clear hb2)
       (try clear hk)
       (try clear hi)
       refine hK.out _ _ ⟨(blk_cell a6.out 0).trans rfl, (blk_cell a6.out 1).trans rfl, (blk_cell a6.out 2).trans rfl, (blk_cell a6.out 3).trans rfl, (blk_cell a7.out 0).trans rfl, (blk_cell a7.out 1).trans rfl, (blk_cell a7.out 2).trans rfl, (blk_cell a7.out 3).trans rfl, (blk_cell c1.out 0).trans rfl, (blk_cell c1.out 1).trans rfl, (blk_cell c1.out 2).trans rfl, (blk_cell c1.out 3).trans rfl, (blk_cell d1.out 0).trans rfl, (blk_cell d1.out 1).trans rfl, (blk_cell d1.out 2).trans rfl, (blk_cell d1.out 3).trans rfl⟩ (fun hHeld => ?_)
       clear hK K
       refine norm_ (a' := ?_) ?_ ?_
       rotate_left
       ·show Act.put _ (some 39) _ = _
        simp only [Act.put, List.setIfInBounds_toArray, List.set_cons_zero, List.set_cons_succ, i64_w, i32_w]
        rfl
       refine pure_ (i := 9) (N := some 40) (v := ?_) (a' := ?_) #[true, true, true, true, true, true, true, true, true, true, false, false, false, false, false, false, false, false, false, false, false, false, false, false, false, false, false, false, false, false, false] rfl rfl (any_of HT_.out (by kernel_rfl)) (fun _ _ _ h => h) (Or.inl ⟨by rfl, ?_⟩) ?_ ?_
       rotate_left
       ·intro w'
        go_simp
        with_reducible rfl
       rotate_left
       ·simp only [Act.put, List.setIfInBounds_toArray, List.set_cons_zero, List.set_cons_succ, i64_w, i32_w]
        rfl
       refine pure_ (i := 10) (N := some 41) (v := ?_) (a' := ?_) #[true, true, true, true, true, true, true, true, true, true, true, false, false, false, false, false, false, false, false, false, false, false, false, false, false, false, false, false, false, false, false] rfl rfl (any_of HT_.out (by kernel_rfl)) (fun _ _ _ h => h) (Or.inl ⟨by rfl, ?_⟩) ?_ ?_
       rotate_left
       ·intro w'
        go_simp
        with_reducible rfl
       rotate_left
       ·simp only [Act.put, List.setIfInBounds_toArray, List.set_cons_zero, List.set_cons_succ, i64_w, i32_w]
        rfl
       refine pure_ (i := 11) (N := some 42) (v := ?_) (a' := ?_) #[true, true, true, true, true, true, true, true, true, true, true, true, false, false, false, false, false, false, false, false, false, false, false, false, false, false, false, false, false, false, false] rfl rfl (any_of HT_.out (by kernel_rfl)) (fun _ _ _ h => h) (Or.inl ⟨by rfl, ?_⟩) ?_ ?_
       rotate_left
       ·intro w'
        go_simp
        with_reducible rfl
       rotate_left
       ·simp only [Act.put, List.setIfInBounds_toArray, List.set_cons_zero, List.set_cons_succ, i64_w, i32_w]
        rfl
       refine pure_ (i := 12) (N := some 43) (v := ?_) (a' := ?_) #[true, true, true, true, true, true, true, true, true, true, true, true, true, false, false, false, false, false, false, false, false, false, false, false, false, false, false, false, false, false, false] rfl rfl (any_of HT_.out (by kernel_rfl)) (fun _ _ _ h => h) (Or.inl ⟨by rfl, ?_⟩) ?_ ?_
       rotate_left
       ·intro w'
        go_simp
        with_reducible rfl
       rotate_left
       ·simp only [Act.put, List.setIfInBounds_toArray, List.set_cons_zero, List.set_cons_succ, i64_w, i32_w]
        rfl
       refine pure_ (i := 13) (N := some 44) (v := ?_) (a' := ?_) #[true, true, true, true, true, true, true, true, true, true, true, true, true, true, false, false, false, false, false, false, false, false, false, false, false, false, false, false, false, false, false] rfl rfl (any_of HT_.out (by kernel_rfl)) (fun _ _ _ h => h) (Or.inl ⟨by rfl, ?_⟩) ?_ ?_
       rotate_left
       ·intro w'
        go_simp
        with_reducible rfl
       rotate_left
       ·simp only [Act.put, List.setIfInBounds_toArray, List.set_cons_zero, List.set_cons_succ, i64_w, i32_w]
        rfl
       refine pure_ (i := 14) (N := some 45) (v := ?_) (a' := ?_) #[true, true, true, true, true, true, true, true, true, true, true, true, true, true, true, false, false, false, false, false, false, false, false, false, false, false, false, false, false, false, false] rfl rfl (any_of HT_.out (by kernel_rfl)) (fun _ _ _ h => h) (Or.inl ⟨by rfl, ?_⟩) ?_ ?_
       rotate_left
       ·intro w'
        go_simp
        with_reducible rfl
       rotate_left
       ·simp only [Act.put, List.setIfInBounds_toArray, List.set_cons_zero, List.set_cons_succ, i64_w, i32_w]
        rfl
       refine take_ (i := 15) (N := some 46) (v := ?_) (a' := ?_) #[true, true, true, true, true, true, true, true, true, true, true, true, true, true, true, true, false, false, false, false, false, false, false, false, false, false, false, false, false, false, false] rfl rfl (take_ofW HT_.out HW_.out (by kernel_rfl)) (fun _ _ _ h => h) (Or.inl ⟨by rfl, ?_⟩) hHeld ?_ ?_
       rotate_left
       ·rintro w' ⟨s0, s1, s2, s3, s4, s5, s6, s7, s8, s9, s10, s11, s12, s13, s14, s15⟩
        go_simp
        with_reducible rfl
       rotate_left
       ·simp only [Act.put, List.setIfInBounds_toArray, List.set_cons_zero, List.set_cons_succ, i64_w, i32_w]
        rfl
       refine take_ (i := 16) (N := some 47) (v := ?_) (a' := ?_) #[true, true, true, true, true, true, true, true, true, true, true, true, true, true, true, true, true, false, false, false, false, false, false, false, false, false, false, false, false, false, false] rfl rfl (take_ofW HT_.out HW_.out (by kernel_rfl)) (fun _ _ _ h => h) (Or.inl ⟨by rfl, ?_⟩) hHeld ?_ ?_
       rotate_left
       ·rintro w' ⟨s0, s1, s2, s3, s4, s5, s6, s7, s8, s9, s10, s11, s12, s13, s14, s15⟩
        go_simp
        with_reducible rfl
       rotate_left
       ·simp only [Act.put, List.setIfInBounds_toArray, List.set_cons_zero, List.set_cons_succ, i64_w, i32_w]
        rfl
       refine take_ (i := 17) (N := some 48) (v := ?_) (a' := ?_) #[true, true, true, true, true, true, true, true, true, true, true, true, true, true, true, true, true, true, false, false, false, false, false, false, false, false, false, false, false, false, false] rfl rfl (take_ofW HT_.out HW_.out (by kernel_rfl)) (fun _ _ _ h => h) (Or.inl ⟨by rfl, ?_⟩) hHeld ?_ ?_
       rotate_left
       ·rintro w' ⟨s0, s1, s2, s3, s4, s5, s6, s7, s8, s9, s10, s11, s12, s13, s14, s15⟩
        go_simp
        with_reducible rfl
       rotate_left
       ·simp only [Act.put, List.setIfInBounds_toArray, List.set_cons_zero, List.set_cons_succ, i64_w, i32_w]
        rfl
       refine one_ (i := 18) (N := some 49) #[true, true, true, true, true, true, true, true, true, true, true, true, true, true, true, true, true, true, true, false, false, false, false, false, false, false, false, false, false, false, false] rfl rfl (one_of HT_.out (by kernel_rfl)) (by decide) (fun K hK => ?_)
       refine goes_ Tryd.func31 (by kernel_rfl) rfl #[.agg #[.int .i64 b4, .int .i64 b5, .int .i64 b6, .int .i64 b7], .agg #[.int .i64 d3, .int .i64 d4, .int .i64 d5, .int .i64 d6]] (by rfl) rfl rfl (by (try simp only [List.map_toArray, List.map_cons, List.map_nil]); first | done | rfl | (simp only [List.length_drop, List.length_take]; rfl)) ?_
       with_reducible refine (spec_RGHull.calls k b4 b5 b6 b7 d3 d4 d5 d6 l4 l5 l6 l7 _ A12.out).mono ?_
       rintro e w59 ⟨rfl, hb⟩
       refine ⟨_, rfl, ?_⟩
       have n0_ := aM (bB (g := a0) (o := .cells #[.int .i64 a0_0, .int .i64 a0_1, .int .i64 a0_2, .int .i64 a0_3] 44 (0, 0)) (by (with_reducible repeat (first | refine bN ?_ _ | refine bD ?_ | refine bA ?_ _)); exact a1.out) hb)
       have n1_ := aM (bB (g := a2) (o := .cells #[.int .i64 a1_0, .int .i64 a1_1, .int .i64 a1_2, .int .i64 a1_3] 44 (0, 0)) (by (with_reducible repeat (first | refine bN ?_ _ | refine bD ?_ | refine bA ?_ _)); exact a3.out) hb)
       have n2_ := aM (bB (g := a4) (o := .cells #[.int .i64 b4, .int .i64 b5, .int .i64 b6, .int .i64 b7] 44 (0, 0)) (by (with_reducible repeat (first | refine bN ?_ _ | refine bD ?_ | refine bA ?_ _)); exact a6.out) hb)
       have n3_ := aM (bB (g := a5) (o := .cells #[.int .i64 d3, .int .i64 d4, .int .i64 d5, .int .i64 d6] 44 (0, 0)) (by (with_reducible repeat (first | refine bN ?_ _ | refine bD ?_ | refine bA ?_ _)); exact a7.out) hb)
       have n4_ := aM (bB (g := d7) (o := .cells #[.int .i64 f6, .int .i64 f8, .int .i64 g0, .int .i64 g1] 44 (0, 0)) (by (with_reducible repeat (first | refine bN ?_ _ | refine bD ?_ | refine bA ?_ _)); exact c1.out) hb)
       have n5_ := aM (bB (g := c0) (o := .cells #[.int .i64 d9, .int .i64 e4, .int .i64 e5, .int .i64 e6] 44 (0, 0)) (by (with_reducible repeat (first | refine bN ?_ _ | refine bD ?_ | refine bA ?_ _)); exact d1.out) hb)
       have n6_ := aM (wP (by repeat (first | (with_reducible first | exact HB.out | apply wA | apply wN | apply wD | refine wS ?_ b2.out | refine wS ?_ b3.out | refine wS ?_ b8.out | refine wS ?_ b9.out | refine wS ?_ g7.out | refine wS ?_ l0.out) | exact HB.out)) hb)
       clear a1
       clear a3
       clear a6
       clear a7
       clear c1
       clear d1
       clear HB
       have a1 := n0_
       have a3 := n1_
       have a6 := n2_
       have a7 := n3_
       have c1 := n4_
       have d1 := n5_
       have HB := n6_
       clear n0_ n1_ n2_ n3_ n4_ n5_ n6_
       (try clear hb)
       (try clear hb2)
       (try clear hk)
       (try clear hi)
       refine hK.out _ _ ⟨(blk_cell a6.out 0).trans rfl, (blk_cell a6.out 1).trans rfl, (blk_cell a6.out 2).trans rfl, (blk_cell a6.out 3).trans rfl, (blk_cell a7.out 0).trans rfl, (blk_cell a7.out 1).trans rfl, (blk_cell a7.out 2).trans rfl, (blk_cell a7.out 3).trans rfl, (blk_cell c1.out 0).trans rfl, (blk_cell c1.out 1).trans rfl, (blk_cell c1.out 2).trans rfl, (blk_cell c1.out 3).trans rfl, (blk_cell d1.out 0).trans rfl, (blk_cell d1.out 1).trans rfl, (blk_cell d1.out 2).trans rfl, (blk_cell d1.out 3).trans rfl⟩ (fun hHeld => ?_)
       clear hK K
       refine norm_ (a' := ?_) ?_ ?_
       rotate_left
       ·show Act.put _ (some 49) _ = _
        simp only [Act.put, List.setIfInBounds_toArray, List.set_cons_zero, List.set_cons_succ, i64_w, i32_w]
        rfl
       refine one_ (i := 19) (N := some 50) #[true, true, true, true, true, true, true, true, true, true, true, true, true, true, true, true, true, true, true, true, false, false, false, false, false, false, false, false, false, false, false] rfl rfl (one_of HT_.out (by kernel_rfl)) (by decide) (fun K hK => ?_)
       refine goes_ Tryd.func27 (by kernel_rfl) rfl #[.agg #[.int .i64 f6, .int .i64 f8, .int .i64 g0, .int .i64 g1], .agg #[.int .i64 l4, .int .i64 l5, .int .i64 l6, .int .i64 l7]] (by rfl) rfl rfl (by (try simp only [List.map_toArray, List.map_cons, List.map_nil]); first | done | rfl | (simp only [List.length_drop, List.length_take]; rfl)) ?_
       with_reducible refine (spec_RGSame.calls k f6 f8 g0 g1 l4 l5 l6 l7 true _ A13.out).mono ?_
       rintro e w60 ⟨rfl, hb⟩
       refine ⟨_, rfl, ?_⟩
       have n0_ := aM (bB (g := a0) (o := .cells #[.int .i64 a0_0, .int .i64 a0_1, .int .i64 a0_2, .int .i64 a0_3] 44 (0, 0)) (by (with_reducible repeat (first | refine bN ?_ _ | refine bD ?_ | refine bA ?_ _)); exact a1.out) hb)
       have n1_ := aM (bB (g := a2) (o := .cells #[.int .i64 a1_0, .int .i64 a1_1, .int .i64 a1_2, .int .i64 a1_3] 44 (0, 0)) (by (with_reducible repeat (first | refine bN ?_ _ | refine bD ?_ | refine bA ?_ _)); exact a3.out) hb)
       have n2_ := aM (bB (g := a4) (o := .cells #[.int .i64 b4, .int .i64 b5, .int .i64 b6, .int .i64 b7] 44 (0, 0)) (by (with_reducible repeat (first | refine bN ?_ _ | refine bD ?_ | refine bA ?_ _)); exact a6.out) hb)
       have n3_ := aM (bB (g := a5) (o := .cells #[.int .i64 d3, .int .i64 d4, .int .i64 d5, .int .i64 d6] 44 (0, 0)) (by (with_reducible repeat (first | refine bN ?_ _ | refine bD ?_ | refine bA ?_ _)); exact a7.out) hb)
       have n4_ := aM (bB (g := d7) (o := .cells #[.int .i64 f6, .int .i64 f8, .int .i64 g0, .int .i64 g1] 44 (0, 0)) (by (with_reducible repeat (first | refine bN ?_ _ | refine bD ?_ | refine bA ?_ _)); exact c1.out) hb)
       have n5_ := aM (bB (g := c0) (o := .cells #[.int .i64 d9, .int .i64 e4, .int .i64 e5, .int .i64 e6] 44 (0, 0)) (by (with_reducible repeat (first | refine bN ?_ _ | refine bD ?_ | refine bA ?_ _)); exact d1.out) hb)
       have n6_ := aM (wP (by repeat (first | (with_reducible first | exact HB.out | apply wA | apply wN | apply wD | refine wS ?_ b2.out | refine wS ?_ b3.out | refine wS ?_ b8.out | refine wS ?_ b9.out | refine wS ?_ g7.out | refine wS ?_ l0.out) | exact HB.out)) hb)
       clear a1
       clear a3
       clear a6
       clear a7
       clear c1
       clear d1
       clear HB
       have a1 := n0_
       have a3 := n1_
       have a6 := n2_
       have a7 := n3_
       have c1 := n4_
       have d1 := n5_
       have HB := n6_
       clear n0_ n1_ n2_ n3_ n4_ n5_ n6_
       (try clear hb)
       (try clear hb2)
       (try clear hk)
       (try clear hi)
       refine hK.out _ _ ⟨(blk_cell a6.out 0).trans rfl, (blk_cell a6.out 1).trans rfl, (blk_cell a6.out 2).trans rfl, (blk_cell a6.out 3).trans rfl, (blk_cell a7.out 0).trans rfl, (blk_cell a7.out 1).trans rfl, (blk_cell a7.out 2).trans rfl, (blk_cell a7.out 3).trans rfl, (blk_cell c1.out 0).trans rfl, (blk_cell c1.out 1).trans rfl, (blk_cell c1.out 2).trans rfl, (blk_cell c1.out 3).trans rfl, (blk_cell d1.out 0).trans rfl, (blk_cell d1.out 1).trans rfl, (blk_cell d1.out 2).trans rfl, (blk_cell d1.out 3).trans rfl⟩ (fun hHeld => ?_)
       clear hK K
       refine norm_ (a' := ?_) ?_ ?_
       rotate_left
       ·show Act.put _ (some 50) _ = _
        simp only [Act.put, List.setIfInBounds_toArray, List.set_cons_zero, List.set_cons_succ, i64_w, i32_w]
        rfl
       refine pure_ (i := 20) (N := some 51) (v := ?_) (a' := ?_) #[true, true, true, true, true, true, true, true, true, true, true, true, true, true, true, true, true, true, true, true, true, false, false, false, false, false, false, false, false, false, false] rfl rfl (any_of HT_.out (by kernel_rfl)) (fun _ _ _ h => h) (Or.inl ⟨by rfl, ?_⟩) ?_ ?_
       rotate_left
       ·intro w'
        go_simp
        with_reducible rfl
       rotate_left
       ·simp only [Act.put, List.setIfInBounds_toArray, List.set_cons_zero, List.set_cons_succ, i64_w, i32_w]
        rfl
       refine pure_ (i := 21) (N := some 52) (v := ?_) (a' := ?_) #[true, true, true, true, true, true, true, true, true, true, true, true, true, true, true, true, true, true, true, true, true, true, false, false, false, false, false, false, false, false, false] rfl rfl (any_of HT_.out (by kernel_rfl)) (fun _ _ _ h => h) (Or.inl ⟨by rfl, ?_⟩) ?_ ?_
       rotate_left
       ·intro w'
        go_simp
        with_reducible rfl
       rotate_left
       ·simp only [Act.put, List.setIfInBounds_toArray, List.set_cons_zero, List.set_cons_succ, i64_w, i32_w]
        rfl
       refine pure_ (i := 22) (N := some 53) (v := ?_) (a' := ?_) #[true, true, true, true, true, true, true, true, true, true, true, true, true, true, true, true, true, true, true, true, true, true, true, false, false, false, false, false, false, false, false] rfl rfl (any_of HT_.out (by kernel_rfl)) (fun _ _ _ h => h) (Or.inl ⟨by rfl, ?_⟩) ?_ ?_
       rotate_left
       ·intro w'
        go_simp
        with_reducible rfl
       rotate_left
       ·simp only [Act.put, List.setIfInBounds_toArray, List.set_cons_zero, List.set_cons_succ, i64_w, i32_w]
        rfl
       refine pure_ (i := 23) (N := some 54) (v := ?_) (a' := ?_) #[true, true, true, true, true, true, true, true, true, true, true, true, true, true, true, true, true, true, true, true, true, true, true, true, false, false, false, false, false, false, false] rfl rfl (any_of HT_.out (by kernel_rfl)) (fun _ _ _ h => h) (Or.inl ⟨by rfl, ?_⟩) ?_ ?_
       rotate_left
       ·intro w'
        go_simp
        with_reducible rfl
       rotate_left
       ·simp only [Act.put, List.setIfInBounds_toArray, List.set_cons_zero, List.set_cons_succ, i64_w, i32_w]
        rfl
       refine pure_ (i := 24) (N := some 55) (v := ?_) (a' := ?_) #[true, true, true, true, true, true, true, true, true, true, true, true, true, true, true, true, true, true, true, true, true, true, true, true, true, false, false, false, false, false, false] rfl rfl (any_of HT_.out (by kernel_rfl)) (fun _ _ _ h => h) (Or.inl ⟨by rfl, ?_⟩) ?_ ?_
       rotate_left
       ·intro w'
        go_simp
        with_reducible rfl
       rotate_left
       ·simp only [Act.put, List.setIfInBounds_toArray, List.set_cons_zero, List.set_cons_succ, i64_w, i32_w]
        rfl
       refine pure_ (i := 25) (N := some 56) (v := ?_) (a' := ?_) #[true, true, true, true, true, true, true, true, true, true, true, true, true, true, true, true, true, true, true, true, true, true, true, true, true, true, false, false, false, false, false] rfl rfl (any_of HT_.out (by kernel_rfl)) (fun _ _ _ h => h) (Or.inl ⟨by rfl, ?_⟩) ?_ ?_
       rotate_left
       ·intro w'
        go_simp
        with_reducible rfl
       rotate_left
       ·simp only [Act.put, List.setIfInBounds_toArray, List.set_cons_zero, List.set_cons_succ, i64_w, i32_w]
        rfl
       refine take_ (i := 26) (N := some 57) (v := ?_) (a' := ?_) #[true, true, true, true, true, true, true, true, true, true, true, true, true, true, true, true, true, true, true, true, true, true, true, true, true, true, true, false, false, false, false] rfl rfl (take_ofW HT_.out HW_.out (by kernel_rfl)) (fun _ _ _ h => h) (Or.inl ⟨by rfl, ?_⟩) hHeld ?_ ?_
       rotate_left
       ·rintro w' ⟨s0, s1, s2, s3, s4, s5, s6, s7, s8, s9, s10, s11, s12, s13, s14, s15⟩
        go_simp
        with_reducible rfl
       rotate_left
       ·simp only [Act.put, List.setIfInBounds_toArray, List.set_cons_zero, List.set_cons_succ, i64_w, i32_w]
        rfl
       refine take_ (i := 27) (N := some 58) (v := ?_) (a' := ?_) #[true, true, true, true, true, true, true, true, true, true, true, true, true, true, true, true, true, true, true, true, true, true, true, true, true, true, true, true, false, false, false] rfl rfl (take_ofW HT_.out HW_.out (by kernel_rfl)) (fun _ _ _ h => h) (Or.inl ⟨by rfl, ?_⟩) hHeld ?_ ?_
       rotate_left
       ·rintro w' ⟨s0, s1, s2, s3, s4, s5, s6, s7, s8, s9, s10, s11, s12, s13, s14, s15⟩
        go_simp
        with_reducible rfl
       rotate_left
       ·simp only [Act.put, List.setIfInBounds_toArray, List.set_cons_zero, List.set_cons_succ, i64_w, i32_w]
        rfl
       refine one_ (i := 28) (N := some 59) #[true, true, true, true, true, true, true, true, true, true, true, true, true, true, true, true, true, true, true, true, true, true, true, true, true, true, true, true, true, false, false] rfl rfl (one_of HT_.out (by kernel_rfl)) (by decide) (fun K hK => ?_)
       refine goes_ Tryd.func27 (by kernel_rfl) rfl #[.agg #[.int .i64 d9, .int .i64 e4, .int .i64 e5, .int .i64 e6], .agg #[.int .i64 b4, .int .i64 b5, .int .i64 b6, .int .i64 b7]] (by rfl) rfl rfl (by (try simp only [List.map_toArray, List.map_cons, List.map_nil]); first | done | rfl | (simp only [List.length_drop, List.length_take]; rfl)) ?_
       with_reducible refine (spec_RGSame.calls k d9 e4 e5 e6 b4 b5 b6 b7 f4 _ A16.out).mono ?_
       rintro e w61 ⟨rfl, hb⟩
       refine ⟨_, rfl, ?_⟩
       have n0_ := aM (bB (g := a0) (o := .cells #[.int .i64 a0_0, .int .i64 a0_1, .int .i64 a0_2, .int .i64 a0_3] 44 (0, 0)) (by (with_reducible repeat (first | refine bN ?_ _ | refine bD ?_ | refine bA ?_ _)); exact a1.out) hb)
       have n1_ := aM (bB (g := a2) (o := .cells #[.int .i64 a1_0, .int .i64 a1_1, .int .i64 a1_2, .int .i64 a1_3] 44 (0, 0)) (by (with_reducible repeat (first | refine bN ?_ _ | refine bD ?_ | refine bA ?_ _)); exact a3.out) hb)
       have n2_ := aM (bB (g := a4) (o := .cells #[.int .i64 b4, .int .i64 b5, .int .i64 b6, .int .i64 b7] 44 (0, 0)) (by (with_reducible repeat (first | refine bN ?_ _ | refine bD ?_ | refine bA ?_ _)); exact a6.out) hb)
       have n3_ := aM (bB (g := a5) (o := .cells #[.int .i64 d3, .int .i64 d4, .int .i64 d5, .int .i64 d6] 44 (0, 0)) (by (with_reducible repeat (first | refine bN ?_ _ | refine bD ?_ | refine bA ?_ _)); exact a7.out) hb)
       have n4_ := aM (bB (g := d7) (o := .cells #[.int .i64 f6, .int .i64 f8, .int .i64 g0, .int .i64 g1] 44 (0, 0)) (by (with_reducible repeat (first | refine bN ?_ _ | refine bD ?_ | refine bA ?_ _)); exact c1.out) hb)
       have n5_ := aM (bB (g := c0) (o := .cells #[.int .i64 d9, .int .i64 e4, .int .i64 e5, .int .i64 e6] 44 (0, 0)) (by (with_reducible repeat (first | refine bN ?_ _ | refine bD ?_ | refine bA ?_ _)); exact d1.out) hb)
       have n6_ := aM (wP (by repeat (first | (with_reducible first | exact HB.out | apply wA | apply wN | apply wD | refine wS ?_ b2.out | refine wS ?_ b3.out | refine wS ?_ b8.out | refine wS ?_ b9.out | refine wS ?_ g7.out | refine wS ?_ l0.out) | exact HB.out)) hb)
       clear a1
       clear a3
       clear a6
       clear a7
       clear c1
       clear d1
       clear HB
       have a1 := n0_
       have a3 := n1_
       have a6 := n2_
       have a7 := n3_
       have c1 := n4_
       have d1 := n5_
       have HB := n6_
       clear n0_ n1_ n2_ n3_ n4_ n5_ n6_
       (try clear hb)
       (try clear hb2)
       (try clear hk)
       (try clear hi)
       refine hK.out _ _ ⟨(blk_cell a6.out 0).trans rfl, (blk_cell a6.out 1).trans rfl, (blk_cell a6.out 2).trans rfl, (blk_cell a6.out 3).trans rfl, (blk_cell a7.out 0).trans rfl, (blk_cell a7.out 1).trans rfl, (blk_cell a7.out 2).trans rfl, (blk_cell a7.out 3).trans rfl, (blk_cell c1.out 0).trans rfl, (blk_cell c1.out 1).trans rfl, (blk_cell c1.out 2).trans rfl, (blk_cell c1.out 3).trans rfl, (blk_cell d1.out 0).trans rfl, (blk_cell d1.out 1).trans rfl, (blk_cell d1.out 2).trans rfl, (blk_cell d1.out 3).trans rfl⟩ (fun hHeld => ?_)
       clear hK K
       refine norm_ (a' := ?_) ?_ ?_
       rotate_left
       ·show Act.put _ (some 59) _ = _
        simp only [Act.put, List.setIfInBounds_toArray, List.set_cons_zero, List.set_cons_succ, i64_w, i32_w]
        rfl
       refine pure_ (i := 29) (N := some 60) (v := ?_) (a' := ?_) #[true, true, true, true, true, true, true, true, true, true, true, true, true, true, true, true, true, true, true, true, true, true, true, true, true, true, true, true, true, true, false] rfl rfl (any_of HT_.out (by kernel_rfl)) (fun _ _ _ h => h) (Or.inl ⟨by rfl, ?_⟩) ?_ ?_
       rotate_left
       ·intro w'
        go_simp
        with_reducible rfl
       rotate_left
       ·simp only [Act.put, List.setIfInBounds_toArray, List.set_cons_zero, List.set_cons_succ, i64_w, i32_w]
        rfl
       refine pure_ (i := 30) (N := some 4) (v := ?_) (a' := ?_) #[true, true, true, true, true, true, true, true, true, true, true, true, true, true, true, true, true, true, true, true, true, true, true, true, true, true, true, true, true, true, true] rfl rfl (any_of HT_.out (by kernel_rfl)) (fun _ _ _ h => h) (Or.inl ⟨by rfl, ?_⟩) ?_ ?_
       rotate_left
       ·intro w'
        go_simp
        with_reducible rfl
       rotate_left
       ·simp only [Act.put, List.setIfInBounds_toArray, List.set_cons_zero, List.set_cons_succ, i64_w, i32_w]
        rfl
       refine done_ (done_of HT_.out (by kernel_rfl)) ?_
       try go_wp2
       go_ret
       exact ⟨by first | rfl | (simp [errW_none, errW_some] <;> rfl) | (simp [*, errW_none, errW_some] <;> rfl), by repeat (first | (with_reducible first | exact HB.out | apply wA | apply wN | apply wD | refine wS ?_ b2.out | refine wS ?_ b3.out | refine wS ?_ b8.out | refine wS ?_ b9.out | refine wS ?_ g7.out | refine wS ?_ l0.out) | exact HB.out)⟩
      ·replace c15 := Bool.eq_false_iff.mpr c15
       subst c15
       have H1 : (some false) = some r := by rw [if_neg (show ¬ (false = true) by decide)] at H; exact H
       clear H
       have H := H1
       clear H1
       exact absurd (H.trans (congrArg some hr1)) (by decide)
     ·replace c14 := Bool.eq_false_iff.mpr c14
      subst c14
      have H1 : (some false) = some r := by rw [if_neg (show ¬ (false = true) by decide)] at H; exact H
      clear H
      have H := H1
      clear H1
      exact absurd (H.trans (congrArg some hr1)) (by decide)
    ·replace c11 := Bool.eq_false_iff.mpr c11
     subst c11
     have H1 : (if g3 = true then ((spec_RGSame.f k d9 e4 e5 e6 b4 b5 b6 b7).bind fun f9 => (some f9)) else (some false)) = some r := by rw [if_neg (show ¬ (false = true) by decide)] at H; exact H
     clear H
     have H := H1
     clear H1
     by_cases l8 : g3 = true
     ·subst l8
      have H1 : ((spec_RGSame.f k d9 e4 e5 e6 b4 b5 b6 b7).bind fun f9 => (some f9)) = some r := by rw [if_pos rfl] at H; exact H
      clear H
      have H := H1
      clear H1
      replace H := Option.bind_eq_some_iff.mp H
      obtain ⟨f9, n3, H⟩ := H
      replace H : (some f9) = some r := H
      have G2 := aM n3
      clear n3
      exact absurd A5.out (hno _ _ _ _ _ _ _ _ _ _ _ _ A3.out A4.out)
     ·replace l8 := Bool.eq_false_iff.mpr l8
      subst l8
      have H1 : (some false) = some r := by rw [if_neg (show ¬ (false = true) by decide)] at H; exact H
      clear H
      have H := H1
      clear H1
      exact absurd (H.trans (congrArg some hr1)) (by decide)
   ·rw [if_neg c10] at H
    have c10b0 : (g2 == f5) = false := by simpa using c10
    (try (have c10b1 : decide (g2 = f5) = false := by simpa using c10))
    (try (have c10b2 : (g2 == f5) = false := by simpa using c10))
    (try (have c10b3 : ¬ (g2 = f5) := by simpa using c10))
    clear c10
    exact absurd (H.trans (congrArg some hr1)) (by decide)
  ·replace c8 := Bool.eq_false_iff.mpr c8
   subst c8
   have H1 : (some false) = some r := by rw [if_neg (show ¬ (false = true) by decide)] at H; exact H
   clear H
   have H := H1
   clear H1
   exact absurd (H.trans (congrArg some hr1)) (by decide)
 ·replace c7 := Bool.eq_false_iff.mpr c7
  subst c7
  have H1 : (some false) = some r := by rw [if_neg (show ¬ (false = true) by decide)] at H; exact H
  clear H
  have H := H1
  clear H1
  exact absurd (H.trans (congrArg some hr1)) (by decide)

end Go.Proofs.YtlcoodjkolponaaDoor.PRU
