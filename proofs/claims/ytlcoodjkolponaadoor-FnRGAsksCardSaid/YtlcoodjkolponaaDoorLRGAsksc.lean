-- written by gprint.py, a program of this claim's own, by means of the kit's print
import Derived.Test.YtlcoodjkolponaaDoorLRGAsksd
namespace Go.Proofs.YtlcoodjkolponaaDoor.PRA
open Go.RowKit Go.Proofs.YtlcoodjkolponaaDoorW.PrintWords Go.Proofs.YtlcoodjkolponaaDoorW.PrintLast Go.Proofs.YtlcoodjkolponaaDoorW.PrintMore
attribute [local go_sem] max2_int min2_int max_two min_two max_three min_three max_four min_four   -- for this text's walks alone
set_option linter.unusedVariables false
set_option linter.unusedSimpArgs false
open Go.Proofs.YtlcoodjkolponaaDoorW.PrintWords renaming blk_drewN → bN, blk_drew → bD, blk_alloc → bA, below_set → wS, below_alloc → wA, pw_below_drewN → wN, below_drew1 → wD, below_step → wP, blk_below → bB, blk_lt → bL, gate_callee → gC
open Go.Proofs.YtlcoodjkolponaaDoorW.PrintLast renaming goesL_ → gL
open Go.Proofs.YtlcoodjkolponaaDoorW.PrintWords.Aside0 renaming mk → aM
set_option maxHeartbeats 8000000 in
set_option maxRecDepth 100000 in
theorem laws_FnRGAsks.calls (k : Nat) (a0_0 : Int) (a0_1 : Int) (a0_2 : Int) (a0_3 : Int) (a1_0 : Int) (a1_1 : Int) (a1_2 : Int) (a1_3 : Int) (r : Bool) (w : World) (hr1 : r = true) (h : laws_FnRGAsks.f k a0_0 a0_1 a0_2 a0_3 a1_0 a1_1 a1_2 a1_3 = some r) :
  Calls Tryd.prog 5 #[.agg #[.int .i64 a0_0, .int .i64 a0_1, .int .i64 a0_2, .int .i64 a0_3], .agg #[.int .i64 a1_0, .int .i64 a1_1, .int .i64 a1_2, .int .i64 a1_3]] w fun e w' => e = .returned (.bool r) ∧ Below w.heap.size w w' := by
 have N5 := Tryd.underlying44
 have HB := aM (Below.refl w.heap.size w)
 have H : ((laws_rgFull.f k a0_0 a0_1 a0_2 a0_3).bind fun d1 => ((laws_rgFull.f k a1_0 a1_1 a1_2 a1_3).bind fun c2 => ((impl_RGEquals.f d1.1 d1.2.1 d1.2.2.1 d1.2.2.2 c2.1 c2.2.1 c2.2.2.1 c2.2.2.2).bind fun f2 => ((impl_RGSubset.f d1.1 d1.2.1 d1.2.2.1 d1.2.2.2 c2.1 c2.2.1 c2.2.2.1 c2.2.2.2).bind fun e9 => ((impl_RGSuperset.f d1.1 d1.2.1 d1.2.2.1 d1.2.2.2 c2.1 c2.2.1 c2.2.2.1 c2.2.2.2).bind fun e8 => ((impl_RGConnected.f d1.1 d1.2.1 d1.2.2.1 d1.2.2.2 c2.1 c2.2.1 c2.2.2.1 c2.2.2.2).bind fun e7 => ((impl_RGEmpty.f d1.1 d1.2.1 d1.2.2.1 d1.2.2.2).bind fun e2 => ((impl_RGEquals.f d1.1 d1.2.1 d1.2.2.1 d1.2.2.2 d1.1 d1.2.1 d1.2.2.1 d1.2.2.2).bind fun d8 => (if f2.2 = true then (if e9.2 = true then (if e8.2 = true then (if e7.2 = true then (if e2.2 = true then (if d8.2 = true then ((spec_RGSame.f k d1.1 d1.2.1 d1.2.2.1 d1.2.2.2 c2.1 c2.2.1 c2.2.2.1 c2.2.2.2).bind fun d5 => (if (f2.1 == d5) = true then ((spec_RGUnder.f k d1.1 d1.2.1 d1.2.2.1 d1.2.2.2 c2.1 c2.2.1 c2.2.2.1 c2.2.2.2).bind fun d4 => (if (e9.1 == d4) = true then ((spec_RGUnder.f k c2.1 c2.2.1 c2.2.2.1 c2.2.2.2 d1.1 d1.2.1 d1.2.2.1 d1.2.2.2).bind fun d3 => (if (e8.1 == d3) = true then ((spec_RGTouch.f k d1.1 d1.2.1 d1.2.2.1 d1.2.2.2 c2.1 c2.2.1 c2.2.2.1 c2.2.2.2).bind fun d2 => (if (e7.1 == d2) = true then (if e2.1 = true then (some false) else (some d8.1)) else (some false))) else (some false))) else (some false))) else (some false))) else (some false)) else (some false)) else (some false)) else (some false)) else (some false)) else (some false)))))))))) = some r := h
 clear h
 replace H := Option.bind_eq_some_iff.mp H
 obtain ⟨⟨a8, a9, b0, b1⟩, A30, H⟩ := H
 replace H : ((laws_rgFull.f k a1_0 a1_1 a1_2 a1_3).bind fun c2 => ((impl_RGEquals.f a8 a9 b0 b1 c2.1 c2.2.1 c2.2.2.1 c2.2.2.2).bind fun f2 => ((impl_RGSubset.f a8 a9 b0 b1 c2.1 c2.2.1 c2.2.2.1 c2.2.2.2).bind fun e9 => ((impl_RGSuperset.f a8 a9 b0 b1 c2.1 c2.2.1 c2.2.2.1 c2.2.2.2).bind fun e8 => ((impl_RGConnected.f a8 a9 b0 b1 c2.1 c2.2.1 c2.2.2.1 c2.2.2.2).bind fun e7 => ((impl_RGEmpty.f a8 a9 b0 b1).bind fun e2 => ((impl_RGEquals.f a8 a9 b0 b1 a8 a9 b0 b1).bind fun d8 => (if f2.2 = true then (if e9.2 = true then (if e8.2 = true then (if e7.2 = true then (if e2.2 = true then (if d8.2 = true then ((spec_RGSame.f k a8 a9 b0 b1 c2.1 c2.2.1 c2.2.2.1 c2.2.2.2).bind fun d5 => (if (f2.1 == d5) = true then ((spec_RGUnder.f k a8 a9 b0 b1 c2.1 c2.2.1 c2.2.2.1 c2.2.2.2).bind fun d4 => (if (e9.1 == d4) = true then ((spec_RGUnder.f k c2.1 c2.2.1 c2.2.2.1 c2.2.2.2 a8 a9 b0 b1).bind fun d3 => (if (e8.1 == d3) = true then ((spec_RGTouch.f k a8 a9 b0 b1 c2.1 c2.2.1 c2.2.2.1 c2.2.2.2).bind fun d2 => (if (e7.1 == d2) = true then (if e2.1 = true then (some false) else (some d8.1)) else (some false))) else (some false))) else (some false))) else (some false))) else (some false)) else (some false)) else (some false)) else (some false)) else (some false)) else (some false))))))))) = some r := H
 have A3 := aM A30
 clear A30
 replace H := Option.bind_eq_some_iff.mp H
 obtain ⟨⟨b6, b7, b8, b9⟩, A40, H⟩ := H
 replace H : ((impl_RGEquals.f a8 a9 b0 b1 b6 b7 b8 b9).bind fun f2 => ((impl_RGSubset.f a8 a9 b0 b1 b6 b7 b8 b9).bind fun e9 => ((impl_RGSuperset.f a8 a9 b0 b1 b6 b7 b8 b9).bind fun e8 => ((impl_RGConnected.f a8 a9 b0 b1 b6 b7 b8 b9).bind fun e7 => ((impl_RGEmpty.f a8 a9 b0 b1).bind fun e2 => ((impl_RGEquals.f a8 a9 b0 b1 a8 a9 b0 b1).bind fun d8 => (if f2.2 = true then (if e9.2 = true then (if e8.2 = true then (if e7.2 = true then (if e2.2 = true then (if d8.2 = true then ((spec_RGSame.f k a8 a9 b0 b1 b6 b7 b8 b9).bind fun d5 => (if (f2.1 == d5) = true then ((spec_RGUnder.f k a8 a9 b0 b1 b6 b7 b8 b9).bind fun d4 => (if (e9.1 == d4) = true then ((spec_RGUnder.f k b6 b7 b8 b9 a8 a9 b0 b1).bind fun d3 => (if (e8.1 == d3) = true then ((spec_RGTouch.f k a8 a9 b0 b1 b6 b7 b8 b9).bind fun d2 => (if (e7.1 == d2) = true then (if e2.1 = true then (some false) else (some d8.1)) else (some false))) else (some false))) else (some false))) else (some false))) else (some false)) else (some false)) else (some false)) else (some false)) else (some false)) else (some false)))))))) = some r := H
 have A4 := aM A40
 clear A40
 replace H := Option.bind_eq_some_iff.mp H
 obtain ⟨⟨e3, h5⟩, A50, H⟩ := H
 replace H : ((impl_RGSubset.f a8 a9 b0 b1 b6 b7 b8 b9).bind fun e9 => ((impl_RGSuperset.f a8 a9 b0 b1 b6 b7 b8 b9).bind fun e8 => ((impl_RGConnected.f a8 a9 b0 b1 b6 b7 b8 b9).bind fun e7 => ((impl_RGEmpty.f a8 a9 b0 b1).bind fun e2 => ((impl_RGEquals.f a8 a9 b0 b1 a8 a9 b0 b1).bind fun d8 => (if h5 = true then (if e9.2 = true then (if e8.2 = true then (if e7.2 = true then (if e2.2 = true then (if d8.2 = true then ((spec_RGSame.f k a8 a9 b0 b1 b6 b7 b8 b9).bind fun d5 => (if (e3 == d5) = true then ((spec_RGUnder.f k a8 a9 b0 b1 b6 b7 b8 b9).bind fun d4 => (if (e9.1 == d4) = true then ((spec_RGUnder.f k b6 b7 b8 b9 a8 a9 b0 b1).bind fun d3 => (if (e8.1 == d3) = true then ((spec_RGTouch.f k a8 a9 b0 b1 b6 b7 b8 b9).bind fun d2 => (if (e7.1 == d2) = true then (if e2.1 = true then (some false) else (some d8.1)) else (some false))) else (some false))) else (some false))) else (some false))) else (some false)) else (some false)) else (some false)) else (some false)) else (some false)) else (some false))))))) = some r := H
 have A5 := aM A50
 clear A50
 replace H := Option.bind_eq_some_iff.mp H
 obtain ⟨⟨e4, h6⟩, A60, H⟩ := H
 replace H : ((impl_RGSuperset.f a8 a9 b0 b1 b6 b7 b8 b9).bind fun e8 => ((impl_RGConnected.f a8 a9 b0 b1 b6 b7 b8 b9).bind fun e7 => ((impl_RGEmpty.f a8 a9 b0 b1).bind fun e2 => ((impl_RGEquals.f a8 a9 b0 b1 a8 a9 b0 b1).bind fun d8 => (if h5 = true then (if h6 = true then (if e8.2 = true then (if e7.2 = true then (if e2.2 = true then (if d8.2 = true then ((spec_RGSame.f k a8 a9 b0 b1 b6 b7 b8 b9).bind fun d5 => (if (e3 == d5) = true then ((spec_RGUnder.f k a8 a9 b0 b1 b6 b7 b8 b9).bind fun d4 => (if (e4 == d4) = true then ((spec_RGUnder.f k b6 b7 b8 b9 a8 a9 b0 b1).bind fun d3 => (if (e8.1 == d3) = true then ((spec_RGTouch.f k a8 a9 b0 b1 b6 b7 b8 b9).bind fun d2 => (if (e7.1 == d2) = true then (if e2.1 = true then (some false) else (some d8.1)) else (some false))) else (some false))) else (some false))) else (some false))) else (some false)) else (some false)) else (some false)) else (some false)) else (some false)) else (some false)))))) = some r := H
 have A6 := aM A60
 clear A60
 replace H := Option.bind_eq_some_iff.mp H
 obtain ⟨⟨e5, h7⟩, A70, H⟩ := H
 replace H : ((impl_RGConnected.f a8 a9 b0 b1 b6 b7 b8 b9).bind fun e7 => ((impl_RGEmpty.f a8 a9 b0 b1).bind fun e2 => ((impl_RGEquals.f a8 a9 b0 b1 a8 a9 b0 b1).bind fun d8 => (if h5 = true then (if h6 = true then (if h7 = true then (if e7.2 = true then (if e2.2 = true then (if d8.2 = true then ((spec_RGSame.f k a8 a9 b0 b1 b6 b7 b8 b9).bind fun d5 => (if (e3 == d5) = true then ((spec_RGUnder.f k a8 a9 b0 b1 b6 b7 b8 b9).bind fun d4 => (if (e4 == d4) = true then ((spec_RGUnder.f k b6 b7 b8 b9 a8 a9 b0 b1).bind fun d3 => (if (e5 == d3) = true then ((spec_RGTouch.f k a8 a9 b0 b1 b6 b7 b8 b9).bind fun d2 => (if (e7.1 == d2) = true then (if e2.1 = true then (some false) else (some d8.1)) else (some false))) else (some false))) else (some false))) else (some false))) else (some false)) else (some false)) else (some false)) else (some false)) else (some false)) else (some false))))) = some r := H
 have A7 := aM A70
 clear A70
 replace H := Option.bind_eq_some_iff.mp H
 obtain ⟨⟨e6, h8⟩, A80, H⟩ := H
 replace H : ((impl_RGEmpty.f a8 a9 b0 b1).bind fun e2 => ((impl_RGEquals.f a8 a9 b0 b1 a8 a9 b0 b1).bind fun d8 => (if h5 = true then (if h6 = true then (if h7 = true then (if h8 = true then (if e2.2 = true then (if d8.2 = true then ((spec_RGSame.f k a8 a9 b0 b1 b6 b7 b8 b9).bind fun d5 => (if (e3 == d5) = true then ((spec_RGUnder.f k a8 a9 b0 b1 b6 b7 b8 b9).bind fun d4 => (if (e4 == d4) = true then ((spec_RGUnder.f k b6 b7 b8 b9 a8 a9 b0 b1).bind fun d3 => (if (e5 == d3) = true then ((spec_RGTouch.f k a8 a9 b0 b1 b6 b7 b8 b9).bind fun d2 => (if (e6 == d2) = true then (if e2.1 = true then (some false) else (some d8.1)) else (some false))) else (some false))) else (some false))) else (some false))) else (some false)) else (some false)) else (some false)) else (some false)) else (some false)) else (some false)))) = some r := H
 have A8 := aM A80
 clear A80
 replace H := Option.bind_eq_some_iff.mp H
 obtain ⟨⟨f0, h9⟩, A90, H⟩ := H
 replace H : ((impl_RGEquals.f a8 a9 b0 b1 a8 a9 b0 b1).bind fun d8 => (if h5 = true then (if h6 = true then (if h7 = true then (if h8 = true then (if h9 = true then (if d8.2 = true then ((spec_RGSame.f k a8 a9 b0 b1 b6 b7 b8 b9).bind fun d5 => (if (e3 == d5) = true then ((spec_RGUnder.f k a8 a9 b0 b1 b6 b7 b8 b9).bind fun d4 => (if (e4 == d4) = true then ((spec_RGUnder.f k b6 b7 b8 b9 a8 a9 b0 b1).bind fun d3 => (if (e5 == d3) = true then ((spec_RGTouch.f k a8 a9 b0 b1 b6 b7 b8 b9).bind fun d2 => (if (e6 == d2) = true then (if f0 = true then (some false) else (some d8.1)) else (some false))) else (some false))) else (some false))) else (some false))) else (some false)) else (some false)) else (some false)) else (some false)) else (some false)) else (some false))) = some r := H
 have A9 := aM A90
 clear A90
 replace H := Option.bind_eq_some_iff.mp H
 obtain ⟨⟨f1, j0⟩, j9, H⟩ := H
 replace H : (if h5 = true then (if h6 = true then (if h7 = true then (if h8 = true then (if h9 = true then (if j0 = true then ((spec_RGSame.f k a8 a9 b0 b1 b6 b7 b8 b9).bind fun d5 => (if (e3 == d5) = true then ((spec_RGUnder.f k a8 a9 b0 b1 b6 b7 b8 b9).bind fun d4 => (if (e4 == d4) = true then ((spec_RGUnder.f k b6 b7 b8 b9 a8 a9 b0 b1).bind fun d3 => (if (e5 == d3) = true then ((spec_RGTouch.f k a8 a9 b0 b1 b6 b7 b8 b9).bind fun d2 => (if (e6 == d2) = true then (if f0 = true then (some false) else (some f1)) else (some false))) else (some false))) else (some false))) else (some false))) else (some false)) else (some false)) else (some false)) else (some false)) else (some false)) else (some false)) = some r := H
 have A10 := aM j9
 clear j9
 by_cases c11 : h5 = true
 ·subst c11
  have H1 : (if h6 = true then (if h7 = true then (if h8 = true then (if h9 = true then (if j0 = true then ((spec_RGSame.f k a8 a9 b0 b1 b6 b7 b8 b9).bind fun d5 => (if (e3 == d5) = true then ((spec_RGUnder.f k a8 a9 b0 b1 b6 b7 b8 b9).bind fun d4 => (if (e4 == d4) = true then ((spec_RGUnder.f k b6 b7 b8 b9 a8 a9 b0 b1).bind fun d3 => (if (e5 == d3) = true then ((spec_RGTouch.f k a8 a9 b0 b1 b6 b7 b8 b9).bind fun d2 => (if (e6 == d2) = true then (if f0 = true then (some false) else (some f1)) else (some false))) else (some false))) else (some false))) else (some false))) else (some false)) else (some false)) else (some false)) else (some false)) else (some false)) = some r := by rw [if_pos rfl] at H; exact H
  clear H
  have H := H1
  clear H1
  by_cases c12 : h6 = true
  ·subst c12
   have H1 : (if h7 = true then (if h8 = true then (if h9 = true then (if j0 = true then ((spec_RGSame.f k a8 a9 b0 b1 b6 b7 b8 b9).bind fun d5 => (if (e3 == d5) = true then ((spec_RGUnder.f k a8 a9 b0 b1 b6 b7 b8 b9).bind fun d4 => (if (e4 == d4) = true then ((spec_RGUnder.f k b6 b7 b8 b9 a8 a9 b0 b1).bind fun d3 => (if (e5 == d3) = true then ((spec_RGTouch.f k a8 a9 b0 b1 b6 b7 b8 b9).bind fun d2 => (if (e6 == d2) = true then (if f0 = true then (some false) else (some f1)) else (some false))) else (some false))) else (some false))) else (some false))) else (some false)) else (some false)) else (some false)) else (some false)) = some r := by rw [if_pos rfl] at H; exact H
   clear H
   have H := H1
   clear H1
   by_cases c13 : h7 = true
   ·subst c13
    have H1 : (if h8 = true then (if h9 = true then (if j0 = true then ((spec_RGSame.f k a8 a9 b0 b1 b6 b7 b8 b9).bind fun d5 => (if (e3 == d5) = true then ((spec_RGUnder.f k a8 a9 b0 b1 b6 b7 b8 b9).bind fun d4 => (if (e4 == d4) = true then ((spec_RGUnder.f k b6 b7 b8 b9 a8 a9 b0 b1).bind fun d3 => (if (e5 == d3) = true then ((spec_RGTouch.f k a8 a9 b0 b1 b6 b7 b8 b9).bind fun d2 => (if (e6 == d2) = true then (if f0 = true then (some false) else (some f1)) else (some false))) else (some false))) else (some false))) else (some false))) else (some false)) else (some false)) else (some false)) = some r := by rw [if_pos rfl] at H; exact H
    clear H
    have H := H1
    clear H1
    by_cases c14 : h8 = true
    ·subst c14
     have H1 : (if h9 = true then (if j0 = true then ((spec_RGSame.f k a8 a9 b0 b1 b6 b7 b8 b9).bind fun d5 => (if (e3 == d5) = true then ((spec_RGUnder.f k a8 a9 b0 b1 b6 b7 b8 b9).bind fun d4 => (if (e4 == d4) = true then ((spec_RGUnder.f k b6 b7 b8 b9 a8 a9 b0 b1).bind fun d3 => (if (e5 == d3) = true then ((spec_RGTouch.f k a8 a9 b0 b1 b6 b7 b8 b9).bind fun d2 => (if (e6 == d2) = true then (if f0 = true then (some false) else (some f1)) else (some false))) else (some false))) else (some false))) else (some false))) else (some false)) else (some false)) = some r := by rw [if_pos rfl] at H; exact H
     clear H
     have H := H1
     clear H1
     by_cases c15 : h9 = true
     ·subst c15
      have H1 : (if j0 = true then ((spec_RGSame.f k a8 a9 b0 b1 b6 b7 b8 b9).bind fun d5 => (if (e3 == d5) = true then ((spec_RGUnder.f k a8 a9 b0 b1 b6 b7 b8 b9).bind fun d4 => (if (e4 == d4) = true then ((spec_RGUnder.f k b6 b7 b8 b9 a8 a9 b0 b1).bind fun d3 => (if (e5 == d3) = true then ((spec_RGTouch.f k a8 a9 b0 b1 b6 b7 b8 b9).bind fun d2 => (if (e6 == d2) = true then (if f0 = true then (some false) else (some f1)) else (some false))) else (some false))) else (some false))) else (some false))) else (some false)) = some r := by rw [if_pos rfl] at H; exact H
      clear H
      have H := H1
      clear H1
      by_cases c16 : j0 = true
      ·subst c16
       have H1 : ((spec_RGSame.f k a8 a9 b0 b1 b6 b7 b8 b9).bind fun d5 => (if (e3 == d5) = true then ((spec_RGUnder.f k a8 a9 b0 b1 b6 b7 b8 b9).bind fun d4 => (if (e4 == d4) = true then ((spec_RGUnder.f k b6 b7 b8 b9 a8 a9 b0 b1).bind fun d3 => (if (e5 == d3) = true then ((spec_RGTouch.f k a8 a9 b0 b1 b6 b7 b8 b9).bind fun d2 => (if (e6 == d2) = true then (if f0 = true then (some false) else (some f1)) else (some false))) else (some false))) else (some false))) else (some false))) = some r := by rw [if_pos rfl] at H; exact H
       clear H
       have H := H1
       clear H1
       replace H := Option.bind_eq_some_iff.mp H
       obtain ⟨d5, l0, H⟩ := H
       replace H : (if (e3 == d5) = true then ((spec_RGUnder.f k a8 a9 b0 b1 b6 b7 b8 b9).bind fun d4 => (if (e4 == d4) = true then ((spec_RGUnder.f k b6 b7 b8 b9 a8 a9 b0 b1).bind fun d3 => (if (e5 == d3) = true then ((spec_RGTouch.f k a8 a9 b0 b1 b6 b7 b8 b9).bind fun d2 => (if (e6 == d2) = true then (if f0 = true then (some false) else (some f1)) else (some false))) else (some false))) else (some false))) else (some false)) = some r := H
       have A17 := aM l0
       clear l0
       by_cases c18 : (e3 == d5) = true
       ·rw [if_pos c18] at H
        have c18b0 : (e3 == d5) = true := c18
        (try (have c18b1 : decide (e3 = d5) = true := by simpa using c18))
        (try (have c18b2 : (e3 == d5) = true := by simpa using c18))
        clear c18
        replace H := Option.bind_eq_some_iff.mp H
        obtain ⟨d4, l1, H⟩ := H
        replace H : (if (e4 == d4) = true then ((spec_RGUnder.f k b6 b7 b8 b9 a8 a9 b0 b1).bind fun d3 => (if (e5 == d3) = true then ((spec_RGTouch.f k a8 a9 b0 b1 b6 b7 b8 b9).bind fun d2 => (if (e6 == d2) = true then (if f0 = true then (some false) else (some f1)) else (some false))) else (some false))) else (some false)) = some r := H
        have A19 := aM l1
        clear l1
        by_cases c20 : (e4 == d4) = true
        ·rw [if_pos c20] at H
         have c20b0 : (e4 == d4) = true := c20
         (try (have c20b1 : decide (e4 = d4) = true := by simpa using c20))
         (try (have c20b2 : (e4 == d4) = true := by simpa using c20))
         clear c20
         replace H := Option.bind_eq_some_iff.mp H
         obtain ⟨d3, l2, H⟩ := H
         replace H : (if (e5 == d3) = true then ((spec_RGTouch.f k a8 a9 b0 b1 b6 b7 b8 b9).bind fun d2 => (if (e6 == d2) = true then (if f0 = true then (some false) else (some f1)) else (some false))) else (some false)) = some r := H
         have A21 := aM l2
         clear l2
         by_cases c22 : (e5 == d3) = true
         ·rw [if_pos c22] at H
          have c22b0 : (e5 == d3) = true := c22
          (try (have c22b1 : decide (e5 = d3) = true := by simpa using c22))
          (try (have c22b2 : (e5 == d3) = true := by simpa using c22))
          clear c22
          replace H := Option.bind_eq_some_iff.mp H
          obtain ⟨d2, l3, H⟩ := H
          replace H : (if (e6 == d2) = true then (if f0 = true then (some false) else (some f1)) else (some false)) = some r := H
          have A23 := aM l3
          clear l3
          by_cases c24 : (e6 == d2) = true
          ·rw [if_pos c24] at H
           have c24b0 : (e6 == d2) = true := c24
           (try (have c24b1 : decide (e6 = d2) = true := by simpa using c24))
           (try (have c24b2 : (e6 == d2) = true := by simpa using c24))
           clear c24
           by_cases c25 : f0 = true
           ·subst c25
            have H1 : (some false) = some r := by rw [if_pos rfl] at H; exact H
            clear H
            have H := H1
            clear H1
            exact absurd (H.trans (congrArg some hr1)) (by decide)
           ·replace c25 := Bool.eq_false_iff.mpr c25
            subst c25
            have H1 : (some f1) = some r := by rw [if_neg (show ¬ (false = true) by decide)] at H; exact H
            clear H
            have H := H1
            clear H1
            clear hr1
            obtain rfl := Option.some.inj H
            go_enter Tryd.func5, Tryd.ntmps5
            try go_wp2_with (first | ((with_reducible refine gate_dst (N := 2) rfl ?_); refine box_event ?hg (N := 2) ?hd (cs := #[.int .i64 a0_0, .int .i64 a0_1, .int .i64 a0_2, .int .i64 a0_3]) (t := 44) ?hr ?_; (case hd => rfl); (case hg => rfl); (case hr => first | (go_simp; done) | (go_simp; rfl)); intro a1 hg w75 hbox hb; have n0_ := aM (wP (by repeat (first | (with_reducible first | exact HB.out | apply wA | apply wN | apply wD) | exact HB.out)) hb); have n1_ := aM (hbox); have n2_ := aM ((by rw [hg]; exact (below_size (by repeat (first | (with_reducible first | exact HB.out | apply wA | apply wN | apply wD) | exact HB.out))) : w.heap.size ≤ a1)); have n3_ := aM ((by rw [hg]; exact (below_size (by repeat (first | (with_reducible first | exact HB.out | apply wA | apply wN | apply wD) | exact HB.out))) : w.heap.size ≤ a1)); clear HB; have HB := n0_; have a0 := n1_; have L5 := n2_; have c0 := n3_; clear n0_ n1_ n2_ n3_; clear hb hbox hg) | ((with_reducible refine gate_dst (N := 3) rfl ?_); refine box_event ?hg (N := 3) ?hd (cs := #[.int .i64 a1_0, .int .i64 a1_1, .int .i64 a1_2, .int .i64 a1_3]) (t := 44) ?hr ?_; (case hd => rfl); (case hg => rfl); (case hr => first | (go_simp; done) | (go_simp; rfl)); intro a2 hg w76 hbox hb; have n0_ := aM (bB (g := a1) (o := .cells #[.int .i64 a0_0, .int .i64 a0_1, .int .i64 a0_2, .int .i64 a0_3] 44 (0, 0)) (by (with_reducible repeat (first | refine bN ?_ _ | refine bD ?_ | refine bA ?_ _)); exact a0.out) hb); have n1_ := aM (wP (by repeat (first | (with_reducible first | exact HB.out | apply wA | apply wN | apply wD | refine wS ?_ c0.out) | exact HB.out)) hb); have n2_ := aM (hbox); have n3_ := aM ((by rw [hg]; exact (below_size (by repeat (first | (with_reducible first | exact HB.out | apply wA | apply wN | apply wD | refine wS ?_ c0.out) | exact HB.out))) : w.heap.size ≤ a2)); have n4_ := aM ((by rw [hg]; exact (below_size (by repeat (first | (with_reducible first | exact HB.out | apply wA | apply wN | apply wD | refine wS ?_ c0.out) | exact HB.out))) : w.heap.size ≤ a2)); have n5_ := aM ((by rw [hg]; exact Nat.ne_of_lt (bL (g := a1) (o := .cells #[.int .i64 a0_0, .int .i64 a0_1, .int .i64 a0_2, .int .i64 a0_3] 44 (0, 0)) (by (with_reducible repeat (first | refine bN ?_ _ | refine bD ?_ | refine bA ?_ _)); exact a0.out)) : a1 ≠ a2)); have n6_ := aM ((by rw [hg]; exact Nat.ne_of_gt (bL (g := a1) (o := .cells #[.int .i64 a0_0, .int .i64 a0_1, .int .i64 a0_2, .int .i64 a0_3] 44 (0, 0)) (by (with_reducible repeat (first | refine bN ?_ _ | refine bD ?_ | refine bA ?_ _)); exact a0.out)) : a2 ≠ a1)); clear a0; clear HB; have a0 := n0_; have HB := n1_; have a3 := n2_; have L6 := n3_; have c1 := n4_; have l5 := n5_; have l6 := n6_; clear n0_ n1_ n2_ n3_ n4_ n5_ n6_; clear hb hbox hg))
            have n0_ := aM (bD a0.out)
            have n1_ := aM (bD a3.out)
            have n2_ := aM (wD HB.out)
            clear a0
            clear a3
            clear HB
            have a0 := n0_
            have a3 := n1_
            have HB := n2_
            clear n0_ n1_ n2_
            refine start_ (n := 8) (S := fun w' => w'.cell? ⟨a1, 0, none⟩ = some (.int .i64 a0_0) ∧ w'.cell? ⟨a1, 1, none⟩ = some (.int .i64 a0_1) ∧ w'.cell? ⟨a1, 2, none⟩ = some (.int .i64 a0_2) ∧ w'.cell? ⟨a1, 3, none⟩ = some (.int .i64 a0_3) ∧ w'.cell? ⟨a2, 0, none⟩ = some (.int .i64 a1_0) ∧ w'.cell? ⟨a2, 1, none⟩ = some (.int .i64 a1_1) ∧ w'.cell? ⟨a2, 2, none⟩ = some (.int .i64 a1_2) ∧ w'.cell? ⟨a2, 3, none⟩ = some (.int .i64 a1_3)) (ds := []) #[false, false, false, false, false, false, false, false] (by kernel_rfl) rfl rfl ⟨(blk_cell a0.out 0).trans rfl, (blk_cell a0.out 1).trans rfl, (blk_cell a0.out 2).trans rfl, (blk_cell a0.out 3).trans rfl, (blk_cell a3.out 0).trans rfl, (blk_cell a3.out 1).trans rfl, (blk_cell a3.out 2).trans rfl, (blk_cell a3.out 3).trans rfl⟩ (fun hHeld => ?_); refine with_tabW laws_FnRGAsks.tab1 laws_FnRGAsks.bits1 (fun HT_ HW_ => ?_)
            generalize w76.drew = w77 at a0 a3 HB hHeld ⊢
            refine take_ (i := 0) (N := some 19) (v := ?_) (a' := ?_) #[true, false, false, false, false, false, false, false] rfl rfl (take_ofW HT_.out HW_.out (by kernel_rfl)) (fun _ _ _ h => h) (Or.inl ⟨by rfl, ?_⟩) hHeld ?_ ?_
            rotate_left
            ·rintro w' ⟨s0, s1, s2, s3, s4, s5, s6, s7⟩
             go_simp
             with_reducible rfl
            rotate_left
            ·simp only [Act.put, List.setIfInBounds_toArray, List.set_cons_zero, List.set_cons_succ, i64_w, i32_w]
             rfl
            refine take_ (i := 2) (N := some 21) (v := ?_) (a' := ?_) #[true, false, true, false, false, false, false, false] rfl rfl (take_ofW HT_.out HW_.out (by kernel_rfl)) (fun _ _ _ h => h) (Or.inl ⟨by rfl, ?_⟩) hHeld ?_ ?_
            rotate_left
            ·rintro w' ⟨s0, s1, s2, s3, s4, s5, s6, s7⟩
             go_simp
             with_reducible rfl
            rotate_left
            ·simp only [Act.put, List.setIfInBounds_toArray, List.set_cons_zero, List.set_cons_succ, i64_w, i32_w]
             rfl
            refine join_ (σ := Nat × Nat) 2 #[true, true, true, true, true, true, false, false] (fun s_ => [(20, .agg #[.int .i64 a8, .int .i64 a9, .int .i64 b0, .int .i64 b1]), (22, .agg #[.int .i64 b6, .int .i64 b7, .int .i64 b8, .int .i64 b9]), (5, .pointer (some ⟨s_.1, 0, none⟩)), (6, .pointer (some ⟨s_.2, 0, none⟩))]) (fun s_ w' => (w'.cell? ⟨a1, 0, none⟩ = some (.int .i64 a0_0) ∧ w'.cell? ⟨a1, 1, none⟩ = some (.int .i64 a0_1) ∧ w'.cell? ⟨a1, 2, none⟩ = some (.int .i64 a0_2) ∧ w'.cell? ⟨a1, 3, none⟩ = some (.int .i64 a0_3) ∧ w'.cell? ⟨a2, 0, none⟩ = some (.int .i64 a1_0) ∧ w'.cell? ⟨a2, 1, none⟩ = some (.int .i64 a1_1) ∧ w'.cell? ⟨a2, 2, none⟩ = some (.int .i64 a1_2) ∧ w'.cell? ⟨a2, 3, none⟩ = some (.int .i64 a1_3)) ∧ (w'.heap[a1]? = some (.cells #[.int .i64 a0_0, .int .i64 a0_1, .int .i64 a0_2, .int .i64 a0_3] 44 (0, 0))) ∧ (w'.heap[a2]? = some (.cells #[.int .i64 a1_0, .int .i64 a1_1, .int .i64 a1_2, .int .i64 a1_3] 44 (0, 0))) ∧ (w'.heap[s_.1]? = some (.cells #[.int .i64 0, .int .i64 0, .int .i64 0, .int .i64 0] 44 (0, 0))) ∧ (w'.heap[s_.2]? = some (.cells #[.int .i64 0, .int .i64 0, .int .i64 0, .int .i64 0] 44 (0, 0))) ∧ (w.heap.size ≤ s_.1) ∧ (w.heap.size ≤ s_.1) ∧ (a1 ≠ s_.1) ∧ (s_.1 ≠ a1) ∧ (a2 ≠ s_.1) ∧ (s_.1 ≠ a2) ∧ (s_.2 ≠ s_.1) ∧ (s_.1 ≠ s_.2) ∧ (w.heap.size ≤ s_.2) ∧ (w.heap.size ≤ s_.2) ∧ (a1 ≠ s_.2) ∧ (s_.2 ≠ a1) ∧ (a2 ≠ s_.2) ∧ (s_.2 ≠ a2) ∧ (Below w.heap.size w w')) ?_ ?_
            rotate_left
            ·intro f3
             refine join_ (σ := Nat) 3 #[true, true, true, true, true, false, false, false] (fun s_ => [(20, .agg #[.int .i64 a8, .int .i64 a9, .int .i64 b0, .int .i64 b1]), (22, .agg #[.int .i64 b6, .int .i64 b7, .int .i64 b8, .int .i64 b9]), (5, .pointer (some ⟨s_, 0, none⟩))]) (fun s_ w' => (w'.cell? ⟨a1, 0, none⟩ = some (.int .i64 a0_0) ∧ w'.cell? ⟨a1, 1, none⟩ = some (.int .i64 a0_1) ∧ w'.cell? ⟨a1, 2, none⟩ = some (.int .i64 a0_2) ∧ w'.cell? ⟨a1, 3, none⟩ = some (.int .i64 a0_3) ∧ w'.cell? ⟨a2, 0, none⟩ = some (.int .i64 a1_0) ∧ w'.cell? ⟨a2, 1, none⟩ = some (.int .i64 a1_1) ∧ w'.cell? ⟨a2, 2, none⟩ = some (.int .i64 a1_2) ∧ w'.cell? ⟨a2, 3, none⟩ = some (.int .i64 a1_3)) ∧ (w'.heap[a1]? = some (.cells #[.int .i64 a0_0, .int .i64 a0_1, .int .i64 a0_2, .int .i64 a0_3] 44 (0, 0))) ∧ (w'.heap[a2]? = some (.cells #[.int .i64 a1_0, .int .i64 a1_1, .int .i64 a1_2, .int .i64 a1_3] 44 (0, 0))) ∧ (w'.heap[s_]? = some (.cells #[.int .i64 0, .int .i64 0, .int .i64 0, .int .i64 0] 44 (0, 0))) ∧ (w.heap.size ≤ s_) ∧ (w.heap.size ≤ s_) ∧ (a1 ≠ s_) ∧ (s_ ≠ a1) ∧ (a2 ≠ s_) ∧ (s_ ≠ a2) ∧ (Below w.heap.size w w')) ?_ ?_
             rotate_left
             ·intro j2
              refine join_ (σ := Nat) 3 #[true, true, true, true, false, true, false, false] (fun s_ => [(20, .agg #[.int .i64 a8, .int .i64 a9, .int .i64 b0, .int .i64 b1]), (22, .agg #[.int .i64 b6, .int .i64 b7, .int .i64 b8, .int .i64 b9]), (6, .pointer (some ⟨s_, 0, none⟩))]) (fun s_ w' => (w'.cell? ⟨a1, 0, none⟩ = some (.int .i64 a0_0) ∧ w'.cell? ⟨a1, 1, none⟩ = some (.int .i64 a0_1) ∧ w'.cell? ⟨a1, 2, none⟩ = some (.int .i64 a0_2) ∧ w'.cell? ⟨a1, 3, none⟩ = some (.int .i64 a0_3) ∧ w'.cell? ⟨a2, 0, none⟩ = some (.int .i64 a1_0) ∧ w'.cell? ⟨a2, 1, none⟩ = some (.int .i64 a1_1) ∧ w'.cell? ⟨a2, 2, none⟩ = some (.int .i64 a1_2) ∧ w'.cell? ⟨a2, 3, none⟩ = some (.int .i64 a1_3)) ∧ (w'.heap[a1]? = some (.cells #[.int .i64 a0_0, .int .i64 a0_1, .int .i64 a0_2, .int .i64 a0_3] 44 (0, 0))) ∧ (w'.heap[a2]? = some (.cells #[.int .i64 a1_0, .int .i64 a1_1, .int .i64 a1_2, .int .i64 a1_3] 44 (0, 0))) ∧ (w'.heap[s_]? = some (.cells #[.int .i64 0, .int .i64 0, .int .i64 0, .int .i64 0] 44 (0, 0))) ∧ (w.heap.size ≤ s_) ∧ (w.heap.size ≤ s_) ∧ (a1 ≠ s_) ∧ (s_ ≠ a1) ∧ (a2 ≠ s_) ∧ (s_ ≠ a2) ∧ (Below w.heap.size w w')) ?_ ?_
              rotate_left
              ·intro j3
               refine join_ (σ := Nat × Nat) 3 #[true, true, true, false, true, true, false, false] (fun s_ => [(20, .agg #[.int .i64 a8, .int .i64 a9, .int .i64 b0, .int .i64 b1]), (5, .pointer (some ⟨s_.1, 0, none⟩)), (6, .pointer (some ⟨s_.2, 0, none⟩))]) (fun s_ w' => (w'.cell? ⟨a1, 0, none⟩ = some (.int .i64 a0_0) ∧ w'.cell? ⟨a1, 1, none⟩ = some (.int .i64 a0_1) ∧ w'.cell? ⟨a1, 2, none⟩ = some (.int .i64 a0_2) ∧ w'.cell? ⟨a1, 3, none⟩ = some (.int .i64 a0_3) ∧ w'.cell? ⟨a2, 0, none⟩ = some (.int .i64 a1_0) ∧ w'.cell? ⟨a2, 1, none⟩ = some (.int .i64 a1_1) ∧ w'.cell? ⟨a2, 2, none⟩ = some (.int .i64 a1_2) ∧ w'.cell? ⟨a2, 3, none⟩ = some (.int .i64 a1_3)) ∧ (w'.heap[a1]? = some (.cells #[.int .i64 a0_0, .int .i64 a0_1, .int .i64 a0_2, .int .i64 a0_3] 44 (0, 0))) ∧ (w'.heap[a2]? = some (.cells #[.int .i64 a1_0, .int .i64 a1_1, .int .i64 a1_2, .int .i64 a1_3] 44 (0, 0))) ∧ (w'.heap[s_.1]? = some (.cells #[.int .i64 0, .int .i64 0, .int .i64 0, .int .i64 0] 44 (0, 0))) ∧ (w'.heap[s_.2]? = some (.cells #[.int .i64 0, .int .i64 0, .int .i64 0, .int .i64 0] 44 (0, 0))) ∧ (w.heap.size ≤ s_.1) ∧ (w.heap.size ≤ s_.1) ∧ (a1 ≠ s_.1) ∧ (s_.1 ≠ a1) ∧ (a2 ≠ s_.1) ∧ (s_.1 ≠ a2) ∧ (s_.2 ≠ s_.1) ∧ (s_.1 ≠ s_.2) ∧ (w.heap.size ≤ s_.2) ∧ (w.heap.size ≤ s_.2) ∧ (a1 ≠ s_.2) ∧ (s_.2 ≠ a1) ∧ (a2 ≠ s_.2) ∧ (s_.2 ≠ a2) ∧ (Below w.heap.size w w')) ?_ ?_
               rotate_left
               ·intro j1
                refine join_ (σ := Unit) 4 #[true, true, true, true, false, false, false, false] (fun s_ => [(20, .agg #[.int .i64 a8, .int .i64 a9, .int .i64 b0, .int .i64 b1]), (22, .agg #[.int .i64 b6, .int .i64 b7, .int .i64 b8, .int .i64 b9])]) (fun s_ w' => (w'.cell? ⟨a1, 0, none⟩ = some (.int .i64 a0_0) ∧ w'.cell? ⟨a1, 1, none⟩ = some (.int .i64 a0_1) ∧ w'.cell? ⟨a1, 2, none⟩ = some (.int .i64 a0_2) ∧ w'.cell? ⟨a1, 3, none⟩ = some (.int .i64 a0_3) ∧ w'.cell? ⟨a2, 0, none⟩ = some (.int .i64 a1_0) ∧ w'.cell? ⟨a2, 1, none⟩ = some (.int .i64 a1_1) ∧ w'.cell? ⟨a2, 2, none⟩ = some (.int .i64 a1_2) ∧ w'.cell? ⟨a2, 3, none⟩ = some (.int .i64 a1_3)) ∧ (w'.heap[a1]? = some (.cells #[.int .i64 a0_0, .int .i64 a0_1, .int .i64 a0_2, .int .i64 a0_3] 44 (0, 0))) ∧ (w'.heap[a2]? = some (.cells #[.int .i64 a1_0, .int .i64 a1_1, .int .i64 a1_2, .int .i64 a1_3] 44 (0, 0))) ∧ (Below w.heap.size w w')) ?_ ?_
                rotate_left
                ·intro l4
                 refine join_ (σ := Nat) 4 #[true, true, true, false, true, false, false, false] (fun s_ => [(20, .agg #[.int .i64 a8, .int .i64 a9, .int .i64 b0, .int .i64 b1]), (5, .pointer (some ⟨s_, 0, none⟩))]) (fun s_ w' => (w'.cell? ⟨a1, 0, none⟩ = some (.int .i64 a0_0) ∧ w'.cell? ⟨a1, 1, none⟩ = some (.int .i64 a0_1) ∧ w'.cell? ⟨a1, 2, none⟩ = some (.int .i64 a0_2) ∧ w'.cell? ⟨a1, 3, none⟩ = some (.int .i64 a0_3) ∧ w'.cell? ⟨a2, 0, none⟩ = some (.int .i64 a1_0) ∧ w'.cell? ⟨a2, 1, none⟩ = some (.int .i64 a1_1) ∧ w'.cell? ⟨a2, 2, none⟩ = some (.int .i64 a1_2) ∧ w'.cell? ⟨a2, 3, none⟩ = some (.int .i64 a1_3)) ∧ (w'.heap[a1]? = some (.cells #[.int .i64 a0_0, .int .i64 a0_1, .int .i64 a0_2, .int .i64 a0_3] 44 (0, 0))) ∧ (w'.heap[a2]? = some (.cells #[.int .i64 a1_0, .int .i64 a1_1, .int .i64 a1_2, .int .i64 a1_3] 44 (0, 0))) ∧ (w'.heap[s_]? = some (.cells #[.int .i64 0, .int .i64 0, .int .i64 0, .int .i64 0] 44 (0, 0))) ∧ (w.heap.size ≤ s_) ∧ (w.heap.size ≤ s_) ∧ (a1 ≠ s_) ∧ (s_ ≠ a1) ∧ (a2 ≠ s_) ∧ (s_ ≠ a2) ∧ (Below w.heap.size w w')) ?_ ?_
                 rotate_left
                 ·intro j6
                  refine join_ (σ := Nat) 4 #[true, true, true, false, false, true, false, false] (fun s_ => [(20, .agg #[.int .i64 a8, .int .i64 a9, .int .i64 b0, .int .i64 b1]), (6, .pointer (some ⟨s_, 0, none⟩))]) (fun s_ w' => (w'.cell? ⟨a1, 0, none⟩ = some (.int .i64 a0_0) ∧ w'.cell? ⟨a1, 1, none⟩ = some (.int .i64 a0_1) ∧ w'.cell? ⟨a1, 2, none⟩ = some (.int .i64 a0_2) ∧ w'.cell? ⟨a1, 3, none⟩ = some (.int .i64 a0_3) ∧ w'.cell? ⟨a2, 0, none⟩ = some (.int .i64 a1_0) ∧ w'.cell? ⟨a2, 1, none⟩ = some (.int .i64 a1_1) ∧ w'.cell? ⟨a2, 2, none⟩ = some (.int .i64 a1_2) ∧ w'.cell? ⟨a2, 3, none⟩ = some (.int .i64 a1_3)) ∧ (w'.heap[a1]? = some (.cells #[.int .i64 a0_0, .int .i64 a0_1, .int .i64 a0_2, .int .i64 a0_3] 44 (0, 0))) ∧ (w'.heap[a2]? = some (.cells #[.int .i64 a1_0, .int .i64 a1_1, .int .i64 a1_2, .int .i64 a1_3] 44 (0, 0))) ∧ (w'.heap[s_]? = some (.cells #[.int .i64 0, .int .i64 0, .int .i64 0, .int .i64 0] 44 (0, 0))) ∧ (w.heap.size ≤ s_) ∧ (w.heap.size ≤ s_) ∧ (a1 ≠ s_) ∧ (s_ ≠ a1) ∧ (a2 ≠ s_) ∧ (s_ ≠ a2) ∧ (Below w.heap.size w w')) ?_ ?_
                  rotate_left
                  ·intro j7
                   refine join_ (σ := Nat × Nat) 4 #[true, false, true, false, true, true, false, false] (fun s_ => [(5, .pointer (some ⟨s_.1, 0, none⟩)), (6, .pointer (some ⟨s_.2, 0, none⟩))]) (fun s_ w' => (w'.cell? ⟨a1, 0, none⟩ = some (.int .i64 a0_0) ∧ w'.cell? ⟨a1, 1, none⟩ = some (.int .i64 a0_1) ∧ w'.cell? ⟨a1, 2, none⟩ = some (.int .i64 a0_2) ∧ w'.cell? ⟨a1, 3, none⟩ = some (.int .i64 a0_3) ∧ w'.cell? ⟨a2, 0, none⟩ = some (.int .i64 a1_0) ∧ w'.cell? ⟨a2, 1, none⟩ = some (.int .i64 a1_1) ∧ w'.cell? ⟨a2, 2, none⟩ = some (.int .i64 a1_2) ∧ w'.cell? ⟨a2, 3, none⟩ = some (.int .i64 a1_3)) ∧ (w'.heap[a1]? = some (.cells #[.int .i64 a0_0, .int .i64 a0_1, .int .i64 a0_2, .int .i64 a0_3] 44 (0, 0))) ∧ (w'.heap[a2]? = some (.cells #[.int .i64 a1_0, .int .i64 a1_1, .int .i64 a1_2, .int .i64 a1_3] 44 (0, 0))) ∧ (w'.heap[s_.1]? = some (.cells #[.int .i64 0, .int .i64 0, .int .i64 0, .int .i64 0] 44 (0, 0))) ∧ (w'.heap[s_.2]? = some (.cells #[.int .i64 0, .int .i64 0, .int .i64 0, .int .i64 0] 44 (0, 0))) ∧ (w.heap.size ≤ s_.1) ∧ (w.heap.size ≤ s_.1) ∧ (a1 ≠ s_.1) ∧ (s_.1 ≠ a1) ∧ (a2 ≠ s_.1) ∧ (s_.1 ≠ a2) ∧ (s_.2 ≠ s_.1) ∧ (s_.1 ≠ s_.2) ∧ (w.heap.size ≤ s_.2) ∧ (w.heap.size ≤ s_.2) ∧ (a1 ≠ s_.2) ∧ (s_.2 ≠ a1) ∧ (a2 ≠ s_.2) ∧ (s_.2 ≠ a2) ∧ (Below w.heap.size w w')) ?_ ?_
                   rotate_left
                   ·intro j8
                    refine join_ (σ := Unit) 5 #[true, true, true, false, false, false, false, false] (fun s_ => [(20, .agg #[.int .i64 a8, .int .i64 a9, .int .i64 b0, .int .i64 b1])]) (fun s_ w' => (w'.cell? ⟨a1, 0, none⟩ = some (.int .i64 a0_0) ∧ w'.cell? ⟨a1, 1, none⟩ = some (.int .i64 a0_1) ∧ w'.cell? ⟨a1, 2, none⟩ = some (.int .i64 a0_2) ∧ w'.cell? ⟨a1, 3, none⟩ = some (.int .i64 a0_3) ∧ w'.cell? ⟨a2, 0, none⟩ = some (.int .i64 a1_0) ∧ w'.cell? ⟨a2, 1, none⟩ = some (.int .i64 a1_1) ∧ w'.cell? ⟨a2, 2, none⟩ = some (.int .i64 a1_2) ∧ w'.cell? ⟨a2, 3, none⟩ = some (.int .i64 a1_3)) ∧ (w'.heap[a1]? = some (.cells #[.int .i64 a0_0, .int .i64 a0_1, .int .i64 a0_2, .int .i64 a0_3] 44 (0, 0))) ∧ (w'.heap[a2]? = some (.cells #[.int .i64 a1_0, .int .i64 a1_1, .int .i64 a1_2, .int .i64 a1_3] 44 (0, 0))) ∧ (Below w.heap.size w w')) ?_ ?_
                    rotate_left
                    ·intro hJ1
                     refine join_ (σ := Nat) 5 #[true, false, true, false, true, false, false, false] (fun s_ => [(5, .pointer (some ⟨s_, 0, none⟩))]) (fun s_ w' => (w'.cell? ⟨a1, 0, none⟩ = some (.int .i64 a0_0) ∧ w'.cell? ⟨a1, 1, none⟩ = some (.int .i64 a0_1) ∧ w'.cell? ⟨a1, 2, none⟩ = some (.int .i64 a0_2) ∧ w'.cell? ⟨a1, 3, none⟩ = some (.int .i64 a0_3) ∧ w'.cell? ⟨a2, 0, none⟩ = some (.int .i64 a1_0) ∧ w'.cell? ⟨a2, 1, none⟩ = some (.int .i64 a1_1) ∧ w'.cell? ⟨a2, 2, none⟩ = some (.int .i64 a1_2) ∧ w'.cell? ⟨a2, 3, none⟩ = some (.int .i64 a1_3)) ∧ (w'.heap[a1]? = some (.cells #[.int .i64 a0_0, .int .i64 a0_1, .int .i64 a0_2, .int .i64 a0_3] 44 (0, 0))) ∧ (w'.heap[a2]? = some (.cells #[.int .i64 a1_0, .int .i64 a1_1, .int .i64 a1_2, .int .i64 a1_3] 44 (0, 0))) ∧ (w'.heap[s_]? = some (.cells #[.int .i64 0, .int .i64 0, .int .i64 0, .int .i64 0] 44 (0, 0))) ∧ (w.heap.size ≤ s_) ∧ (w.heap.size ≤ s_) ∧ (a1 ≠ s_) ∧ (s_ ≠ a1) ∧ (a2 ≠ s_) ∧ (s_ ≠ a2) ∧ (Below w.heap.size w w')) ?_ ?_
                     rotate_left
                     ·intro hJ4
                      refine join_ (σ := Nat) 5 #[true, false, true, false, false, true, false, false] (fun s_ => [(6, .pointer (some ⟨s_, 0, none⟩))]) (fun s_ w' => (w'.cell? ⟨a1, 0, none⟩ = some (.int .i64 a0_0) ∧ w'.cell? ⟨a1, 1, none⟩ = some (.int .i64 a0_1) ∧ w'.cell? ⟨a1, 2, none⟩ = some (.int .i64 a0_2) ∧ w'.cell? ⟨a1, 3, none⟩ = some (.int .i64 a0_3) ∧ w'.cell? ⟨a2, 0, none⟩ = some (.int .i64 a1_0) ∧ w'.cell? ⟨a2, 1, none⟩ = some (.int .i64 a1_1) ∧ w'.cell? ⟨a2, 2, none⟩ = some (.int .i64 a1_2) ∧ w'.cell? ⟨a2, 3, none⟩ = some (.int .i64 a1_3)) ∧ (w'.heap[a1]? = some (.cells #[.int .i64 a0_0, .int .i64 a0_1, .int .i64 a0_2, .int .i64 a0_3] 44 (0, 0))) ∧ (w'.heap[a2]? = some (.cells #[.int .i64 a1_0, .int .i64 a1_1, .int .i64 a1_2, .int .i64 a1_3] 44 (0, 0))) ∧ (w'.heap[s_]? = some (.cells #[.int .i64 0, .int .i64 0, .int .i64 0, .int .i64 0] 44 (0, 0))) ∧ (w.heap.size ≤ s_) ∧ (w.heap.size ≤ s_) ∧ (a1 ≠ s_) ∧ (s_ ≠ a1) ∧ (a2 ≠ s_) ∧ (s_ ≠ a2) ∧ (Below w.heap.size w w')) ?_ ?_
                      rotate_left
                      ·intro hJ5
                       refine three_ (i := 1) (j := 4) (k := 5) (Ni := some 20) (Nj := some 5) (Nk := some 6) #[true, true, true, false, false, false, false, false] #[true, false, true, false, true, false, false, false] #[true, false, true, false, false, true, false, false] rfl rfl rfl rfl rfl rfl (three_of HT_.out (by kernel_rfl)) (by decide) (by decide) (by decide) (fun K hK => ?_) (fun K hK => ?_) (fun K hK => ?_)
                       ·skip
                        refine goes_ Tryd.func21 (by kernel_rfl) rfl #[.agg #[.int .i64 a0_0, .int .i64 a0_1, .int .i64 a0_2, .int .i64 a0_3]] (by rfl) rfl rfl (by (try simp only [List.map_toArray, List.map_cons, List.map_nil]); first | done | rfl | (simp only [List.length_drop, List.length_take]; rfl)) ?_
                        with_reducible refine (laws_rgFull.calls k a0_0 a0_1 a0_2 a0_3 a8 a9 b0 b1 _ A3.out).mono ?_
                        rintro e w78 ⟨rfl, hb⟩
                        refine ⟨_, rfl, ?_⟩
                        have n0_ := aM (bB (g := a1) (o := .cells #[.int .i64 a0_0, .int .i64 a0_1, .int .i64 a0_2, .int .i64 a0_3] 44 (0, 0)) (by (with_reducible repeat (first | refine bN ?_ _ | refine bD ?_ | refine bA ?_ _)); exact a0.out) hb)
                        have n1_ := aM (bB (g := a2) (o := .cells #[.int .i64 a1_0, .int .i64 a1_1, .int .i64 a1_2, .int .i64 a1_3] 44 (0, 0)) (by (with_reducible repeat (first | refine bN ?_ _ | refine bD ?_ | refine bA ?_ _)); exact a3.out) hb)
                        have n2_ := aM (wP (by repeat (first | (with_reducible first | exact HB.out | apply wA | apply wN | apply wD | refine wS ?_ c0.out | refine wS ?_ c1.out) | exact HB.out)) hb)
                        clear a0
                        clear a3
                        clear HB
                        have a0 := n0_
                        have a3 := n1_
                        have HB := n2_
                        clear n0_ n1_ n2_
                        (try clear hb)
                        (try clear hb2)
                        (try clear hk)
                        (try clear hi)
                        refine hK.out _ _ ⟨(blk_cell a0.out 0).trans rfl, (blk_cell a0.out 1).trans rfl, (blk_cell a0.out 2).trans rfl, (blk_cell a0.out 3).trans rfl, (blk_cell a3.out 0).trans rfl, (blk_cell a3.out 1).trans rfl, (blk_cell a3.out 2).trans rfl, (blk_cell a3.out 3).trans rfl⟩ (fun hHeld => ?_)
                        clear hK K
                        refine norm_ (a' := ?_) ?_ ?_
                        rotate_left
                        ·show Act.put _ (some 20) _ = _
                         simp only [Act.put, List.setIfInBounds_toArray, List.set_cons_zero, List.set_cons_succ, i64_w, i32_w]
                         rfl
                        exact norm_ (by first | (simp only [putAll, Act.put, List.setIfInBounds_toArray, List.set_cons_zero, List.set_cons_succ]; done) | (simp only [putAll, Act.put, List.setIfInBounds_toArray, List.set_cons_zero, List.set_cons_succ]; rfl)) (hJ1 () _ ⟨hHeld, (by (with_reducible repeat (first | refine bN ?_ _ | refine bD ?_ | refine bA ?_ _)); exact a0.out), (by (with_reducible repeat (first | refine bN ?_ _ | refine bD ?_ | refine bA ?_ _)); exact a3.out), (by repeat (first | (with_reducible first | exact HB.out | apply wA | apply wN | apply wD | refine wS ?_ c0.out | refine wS ?_ c1.out) | exact HB.out))⟩)
                       ·skip
                        refine box_step ?hg (N := 5) ?hd (cs := #[.int .i64 0, .int .i64 0, .int .i64 0, .int .i64 0]) (t := 44) ?hr ?_; (case hd => rfl); (case hg => rfl); (case hr => first | (go_simp; done) | (go_simp; rfl))
                        intro a4 hg w78 hbox hb
                        have n0_ := aM (bB (g := a1) (o := .cells #[.int .i64 a0_0, .int .i64 a0_1, .int .i64 a0_2, .int .i64 a0_3] 44 (0, 0)) (by (with_reducible repeat (first | refine bN ?_ _ | refine bD ?_ | refine bA ?_ _)); exact a0.out) hb)
                        have n1_ := aM (bB (g := a2) (o := .cells #[.int .i64 a1_0, .int .i64 a1_1, .int .i64 a1_2, .int .i64 a1_3] 44 (0, 0)) (by (with_reducible repeat (first | refine bN ?_ _ | refine bD ?_ | refine bA ?_ _)); exact a3.out) hb)
                        have n2_ := aM (wP (by repeat (first | (with_reducible first | exact HB.out | apply wA | apply wN | apply wD | refine wS ?_ c0.out | refine wS ?_ c1.out) | exact HB.out)) hb)
                        have n3_ := aM (hbox)
                        have n4_ := aM ((by rw [hg]; exact (below_size (by repeat (first | (with_reducible first | exact HB.out | apply wA | apply wN | apply wD | refine wS ?_ c0.out | refine wS ?_ c1.out) | exact HB.out))) : w.heap.size ≤ a4))
                        have n5_ := aM ((by rw [hg]; exact (below_size (by repeat (first | (with_reducible first | exact HB.out | apply wA | apply wN | apply wD | refine wS ?_ c0.out | refine wS ?_ c1.out) | exact HB.out))) : w.heap.size ≤ a4))
                        have n6_ := aM ((by rw [hg]; exact Nat.ne_of_lt (bL (g := a1) (o := .cells #[.int .i64 a0_0, .int .i64 a0_1, .int .i64 a0_2, .int .i64 a0_3] 44 (0, 0)) (by (with_reducible repeat (first | refine bN ?_ _ | refine bD ?_ | refine bA ?_ _)); exact a0.out)) : a1 ≠ a4))
                        have n7_ := aM ((by rw [hg]; exact Nat.ne_of_gt (bL (g := a1) (o := .cells #[.int .i64 a0_0, .int .i64 a0_1, .int .i64 a0_2, .int .i64 a0_3] 44 (0, 0)) (by (with_reducible repeat (first | refine bN ?_ _ | refine bD ?_ | refine bA ?_ _)); exact a0.out)) : a4 ≠ a1))
                        have n8_ := aM ((by rw [hg]; exact Nat.ne_of_lt (bL (g := a2) (o := .cells #[.int .i64 a1_0, .int .i64 a1_1, .int .i64 a1_2, .int .i64 a1_3] 44 (0, 0)) (by (with_reducible repeat (first | refine bN ?_ _ | refine bD ?_ | refine bA ?_ _)); exact a3.out)) : a2 ≠ a4))
                        have n9_ := aM ((by rw [hg]; exact Nat.ne_of_gt (bL (g := a2) (o := .cells #[.int .i64 a1_0, .int .i64 a1_1, .int .i64 a1_2, .int .i64 a1_3] 44 (0, 0)) (by (with_reducible repeat (first | refine bN ?_ _ | refine bD ?_ | refine bA ?_ _)); exact a3.out)) : a4 ≠ a2))
                        clear a0
                        clear a3
                        clear HB
                        have a0 := n0_
                        have a3 := n1_
                        have HB := n2_
                        have a6 := n3_
                        have d6 := n4_
                        have c3 := n5_
                        have b2 := n6_
                        have c5 := n7_
                        have b3 := n8_
                        have c6 := n9_
                        clear n0_ n1_ n2_ n3_ n4_ n5_ n6_ n7_ n8_ n9_
                        clear hb hbox hg
                        refine hK.out _ _ ⟨(blk_cell a0.out 0).trans rfl, (blk_cell a0.out 1).trans rfl, (blk_cell a0.out 2).trans rfl, (blk_cell a0.out 3).trans rfl, (blk_cell a3.out 0).trans rfl, (blk_cell a3.out 1).trans rfl, (blk_cell a3.out 2).trans rfl, (blk_cell a3.out 3).trans rfl⟩ (fun hHeld => ?_)
                        clear hK K
                        refine norm_ (a' := ?_) ?_ ?_
                        rotate_left
                        ·show Act.put _ (some 5) _ = _
                         simp only [Act.put, List.setIfInBounds_toArray, List.set_cons_zero, List.set_cons_succ, i64_w, i32_w]
                         rfl
                        exact norm_ (by first | (simp only [putAll, Act.put, List.setIfInBounds_toArray, List.set_cons_zero, List.set_cons_succ]; done) | (simp only [putAll, Act.put, List.setIfInBounds_toArray, List.set_cons_zero, List.set_cons_succ]; rfl)) (hJ4 (a4) _ ⟨hHeld, (by (with_reducible repeat (first | refine bN ?_ _ | refine bD ?_ | refine bA ?_ _)); exact a0.out), (by (with_reducible repeat (first | refine bN ?_ _ | refine bD ?_ | refine bA ?_ _)); exact a3.out), (by (with_reducible repeat (first | refine bN ?_ _ | refine bD ?_ | refine bA ?_ _)); exact a6.out), d6.out, c3.out, b2.out, c5.out, b3.out, c6.out, (by repeat (first | (with_reducible first | exact HB.out | apply wA | apply wN | apply wD | refine wS ?_ c0.out | refine wS ?_ c1.out | refine wS ?_ c3.out) | exact HB.out))⟩)
                       ·skip
                        refine box_step ?hg (N := 6) ?hd (cs := #[.int .i64 0, .int .i64 0, .int .i64 0, .int .i64 0]) (t := 44) ?hr ?_; (case hd => rfl); (case hg => rfl); (case hr => first | (go_simp; done) | (go_simp; rfl))
                        intro a5 hg w78 hbox hb
                        have n0_ := aM (bB (g := a1) (o := .cells #[.int .i64 a0_0, .int .i64 a0_1, .int .i64 a0_2, .int .i64 a0_3] 44 (0, 0)) (by (with_reducible repeat (first | refine bN ?_ _ | refine bD ?_ | refine bA ?_ _)); exact a0.out) hb)
                        have n1_ := aM (bB (g := a2) (o := .cells #[.int .i64 a1_0, .int .i64 a1_1, .int .i64 a1_2, .int .i64 a1_3] 44 (0, 0)) (by (with_reducible repeat (first | refine bN ?_ _ | refine bD ?_ | refine bA ?_ _)); exact a3.out) hb)
                        have n2_ := aM (wP (by repeat (first | (with_reducible first | exact HB.out | apply wA | apply wN | apply wD | refine wS ?_ c0.out | refine wS ?_ c1.out) | exact HB.out)) hb)
                        have n3_ := aM (hbox)
                        have n4_ := aM ((by rw [hg]; exact (below_size (by repeat (first | (with_reducible first | exact HB.out | apply wA | apply wN | apply wD | refine wS ?_ c0.out | refine wS ?_ c1.out) | exact HB.out))) : w.heap.size ≤ a5))
                        have n5_ := aM ((by rw [hg]; exact (below_size (by repeat (first | (with_reducible first | exact HB.out | apply wA | apply wN | apply wD | refine wS ?_ c0.out | refine wS ?_ c1.out) | exact HB.out))) : w.heap.size ≤ a5))
                        have n6_ := aM ((by rw [hg]; exact Nat.ne_of_lt (bL (g := a1) (o := .cells #[.int .i64 a0_0, .int .i64 a0_1, .int .i64 a0_2, .int .i64 a0_3] 44 (0, 0)) (by (with_reducible repeat (first | refine bN ?_ _ | refine bD ?_ | refine bA ?_ _)); exact a0.out)) : a1 ≠ a5))
                        have n7_ := aM ((by rw [hg]; exact Nat.ne_of_gt (bL (g := a1) (o := .cells #[.int .i64 a0_0, .int .i64 a0_1, .int .i64 a0_2, .int .i64 a0_3] 44 (0, 0)) (by (with_reducible repeat (first | refine bN ?_ _ | refine bD ?_ | refine bA ?_ _)); exact a0.out)) : a5 ≠ a1))
                        have n8_ := aM ((by rw [hg]; exact Nat.ne_of_lt (bL (g := a2) (o := .cells #[.int .i64 a1_0, .int .i64 a1_1, .int .i64 a1_2, .int .i64 a1_3] 44 (0, 0)) (by (with_reducible repeat (first | refine bN ?_ _ | refine bD ?_ | refine bA ?_ _)); exact a3.out)) : a2 ≠ a5))
                        have n9_ := aM ((by rw [hg]; exact Nat.ne_of_gt (bL (g := a2) (o := .cells #[.int .i64 a1_0, .int .i64 a1_1, .int .i64 a1_2, .int .i64 a1_3] 44 (0, 0)) (by (with_reducible repeat (first | refine bN ?_ _ | refine bD ?_ | refine bA ?_ _)); exact a3.out)) : a5 ≠ a2))
                        clear a0
                        clear a3
                        clear HB
                        have a0 := n0_
                        have a3 := n1_
                        have HB := n2_
                        have a7 := n3_
                        have d7 := n4_
                        have c4 := n5_
                        have b4 := n6_
                        have c7 := n7_
                        have b5 := n8_
                        have c8 := n9_
                        clear n0_ n1_ n2_ n3_ n4_ n5_ n6_ n7_ n8_ n9_
                        clear hb hbox hg
                        refine hK.out _ _ ⟨(blk_cell a0.out 0).trans rfl, (blk_cell a0.out 1).trans rfl, (blk_cell a0.out 2).trans rfl, (blk_cell a0.out 3).trans rfl, (blk_cell a3.out 0).trans rfl, (blk_cell a3.out 1).trans rfl, (blk_cell a3.out 2).trans rfl, (blk_cell a3.out 3).trans rfl⟩ (fun hHeld => ?_)
                        clear hK K
                        refine norm_ (a' := ?_) ?_ ?_
                        rotate_left
                        ·show Act.put _ (some 6) _ = _
                         simp only [Act.put, List.setIfInBounds_toArray, List.set_cons_zero, List.set_cons_succ, i64_w, i32_w]
                         rfl
                        exact norm_ (by first | (simp only [putAll, Act.put, List.setIfInBounds_toArray, List.set_cons_zero, List.set_cons_succ]; done) | (simp only [putAll, Act.put, List.setIfInBounds_toArray, List.set_cons_zero, List.set_cons_succ]; rfl)) (hJ5 (a5) _ ⟨hHeld, (by (with_reducible repeat (first | refine bN ?_ _ | refine bD ?_ | refine bA ?_ _)); exact a0.out), (by (with_reducible repeat (first | refine bN ?_ _ | refine bD ?_ | refine bA ?_ _)); exact a3.out), (by (with_reducible repeat (first | refine bN ?_ _ | refine bD ?_ | refine bA ?_ _)); exact a7.out), d7.out, c4.out, b4.out, c7.out, b5.out, c8.out, (by repeat (first | (with_reducible first | exact HB.out | apply wA | apply wN | apply wD | refine wS ?_ c0.out | refine wS ?_ c1.out | refine wS ?_ c4.out) | exact HB.out))⟩)
                      ·skip
                       rintro a5 w79 ⟨hS_, h0_, h1_, h2_, h3_, h4_, h5_, h6_, h7_, h8_, h9_⟩
                       have n0_ : Aside0 (w79.heap[a1]? = some (.cells #[.int .i64 a0_0, .int .i64 a0_1, .int .i64 a0_2, .int .i64 a0_3] 44 (0, 0))) := ⟨h0_⟩
                       have n1_ : Aside0 (w79.heap[a2]? = some (.cells #[.int .i64 a1_0, .int .i64 a1_1, .int .i64 a1_2, .int .i64 a1_3] 44 (0, 0))) := ⟨h1_⟩
                       have n2_ : Aside0 (w79.heap[a5]? = some (.cells #[.int .i64 0, .int .i64 0, .int .i64 0, .int .i64 0] 44 (0, 0))) := ⟨h2_⟩
                       have n3_ : Aside0 (w.heap.size ≤ a5) := ⟨h3_⟩
                       have n4_ : Aside0 (w.heap.size ≤ a5) := ⟨h4_⟩
                       have n5_ : Aside0 (a1 ≠ a5) := ⟨h5_⟩
                       have n6_ : Aside0 (a5 ≠ a1) := ⟨h6_⟩
                       have n7_ : Aside0 (a2 ≠ a5) := ⟨h7_⟩
                       have n8_ : Aside0 (a5 ≠ a2) := ⟨h8_⟩
                       have n9_ : Aside0 (Below w.heap.size w w79) := ⟨h9_⟩
                       clear a0
                       clear a3
                       clear HB
                       clear h0_ h1_ h2_ h3_ h4_ h5_ h6_ h7_ h8_ h9_
                       have a0 := n0_
                       have a3 := n1_
                       have a7 := n2_
                       have d7 := n3_
                       have c4 := n4_
                       have b4 := n5_
                       have c7 := n6_
                       have b5 := n7_
                       have c8 := n8_
                       have HB := n9_
                       clear n0_ n1_ n2_ n3_ n4_ n5_ n6_ n7_ n8_ n9_
                       have hHeld : w79.cell? ⟨a1, 0, none⟩ = some (.int .i64 a0_0) ∧ w79.cell? ⟨a1, 1, none⟩ = some (.int .i64 a0_1) ∧ w79.cell? ⟨a1, 2, none⟩ = some (.int .i64 a0_2) ∧ w79.cell? ⟨a1, 3, none⟩ = some (.int .i64 a0_3) ∧ w79.cell? ⟨a2, 0, none⟩ = some (.int .i64 a1_0) ∧ w79.cell? ⟨a2, 1, none⟩ = some (.int .i64 a1_1) ∧ w79.cell? ⟨a2, 2, none⟩ = some (.int .i64 a1_2) ∧ w79.cell? ⟨a2, 3, none⟩ = some (.int .i64 a1_3) := hS_
                       refine norm_ (a' := ?_) ?_ ?_
                       rotate_left
                       ·simp only [putAll, Act.put, List.setIfInBounds_toArray, List.set_cons_zero, List.set_cons_succ]
                        rfl
                       refine two_ (i := 1) (j := 4) (Ni := some 20) (Nj := some 5) #[true, true, true, false, false, true, false, false] #[true, false, true, false, true, true, false, false] rfl rfl rfl rfl (two_of HT_.out (by kernel_rfl)) (by decide) (by decide) (fun K hK => ?_) (fun K hK => ?_)
                       ·skip
                        refine goes_ Tryd.func21 (by kernel_rfl) rfl #[.agg #[.int .i64 a0_0, .int .i64 a0_1, .int .i64 a0_2, .int .i64 a0_3]] (by rfl) rfl rfl (by (try simp only [List.map_toArray, List.map_cons, List.map_nil]); first | done | rfl | (simp only [List.length_drop, List.length_take]; rfl)) ?_
                        with_reducible refine (laws_rgFull.calls k a0_0 a0_1 a0_2 a0_3 a8 a9 b0 b1 _ A3.out).mono ?_
                        rintro e w80 ⟨rfl, hb⟩
                        refine ⟨_, rfl, ?_⟩
                        have n0_ := aM (bB (g := a1) (o := .cells #[.int .i64 a0_0, .int .i64 a0_1, .int .i64 a0_2, .int .i64 a0_3] 44 (0, 0)) (by (with_reducible repeat (first | refine bN ?_ _ | refine bD ?_ | refine bA ?_ _)); exact a0.out) hb)
                        have n1_ := aM (bB (g := a2) (o := .cells #[.int .i64 a1_0, .int .i64 a1_1, .int .i64 a1_2, .int .i64 a1_3] 44 (0, 0)) (by (with_reducible repeat (first | refine bN ?_ _ | refine bD ?_ | refine bA ?_ _)); exact a3.out) hb)
                        have n2_ := aM (bB (g := a5) (o := .cells #[.int .i64 0, .int .i64 0, .int .i64 0, .int .i64 0] 44 (0, 0)) (by (with_reducible repeat (first | refine bN ?_ _ | refine bD ?_ | refine bA ?_ _)); exact a7.out) hb)
                        have n3_ := aM (wP (by repeat (first | (with_reducible first | exact HB.out | apply wA | apply wN | apply wD | refine wS ?_ c0.out | refine wS ?_ c1.out | refine wS ?_ c4.out) | exact HB.out)) hb)
                        clear a0
                        clear a3
                        clear a7
                        clear HB
                        have a0 := n0_
                        have a3 := n1_
                        have a7 := n2_
                        have HB := n3_
                        clear n0_ n1_ n2_ n3_
                        (try clear hb)
                        (try clear hb2)
                        (try clear hk)
                        (try clear hi)
                        refine hK.out _ _ ⟨(blk_cell a0.out 0).trans rfl, (blk_cell a0.out 1).trans rfl, (blk_cell a0.out 2).trans rfl, (blk_cell a0.out 3).trans rfl, (blk_cell a3.out 0).trans rfl, (blk_cell a3.out 1).trans rfl, (blk_cell a3.out 2).trans rfl, (blk_cell a3.out 3).trans rfl⟩ (fun hHeld => ?_)
                        clear hK K
                        refine norm_ (a' := ?_) ?_ ?_
                        rotate_left
                        ·show Act.put _ (some 20) _ = _
                         simp only [Act.put, List.setIfInBounds_toArray, List.set_cons_zero, List.set_cons_succ, i64_w, i32_w]
                         rfl
                        exact norm_ (by first | (simp only [putAll, Act.put, List.setIfInBounds_toArray, List.set_cons_zero, List.set_cons_succ]; done) | (simp only [putAll, Act.put, List.setIfInBounds_toArray, List.set_cons_zero, List.set_cons_succ]; rfl)) (j7 (a5) _ ⟨hHeld, (by (with_reducible repeat (first | refine bN ?_ _ | refine bD ?_ | refine bA ?_ _)); exact a0.out), (by (with_reducible repeat (first | refine bN ?_ _ | refine bD ?_ | refine bA ?_ _)); exact a3.out), (by (with_reducible repeat (first | refine bN ?_ _ | refine bD ?_ | refine bA ?_ _)); exact a7.out), d7.out, c4.out, b4.out, c7.out, b5.out, c8.out, (by repeat (first | (with_reducible first | exact HB.out | apply wA | apply wN | apply wD | refine wS ?_ c0.out | refine wS ?_ c1.out | refine wS ?_ c4.out) | exact HB.out))⟩)
                       ·skip
                        refine box_step ?hg (N := 5) ?hd (cs := #[.int .i64 0, .int .i64 0, .int .i64 0, .int .i64 0]) (t := 44) ?hr ?_; (case hd => rfl); (case hg => rfl); (case hr => first | (go_simp; done) | (go_simp; rfl))
                        intro a4 hg w80 hbox hb
                        have n0_ := aM (bB (g := a1) (o := .cells #[.int .i64 a0_0, .int .i64 a0_1, .int .i64 a0_2, .int .i64 a0_3] 44 (0, 0)) (by (with_reducible repeat (first | refine bN ?_ _ | refine bD ?_ | refine bA ?_ _)); exact a0.out) hb)
                        have n1_ := aM (bB (g := a2) (o := .cells #[.int .i64 a1_0, .int .i64 a1_1, .int .i64 a1_2, .int .i64 a1_3] 44 (0, 0)) (by (with_reducible repeat (first | refine bN ?_ _ | refine bD ?_ | refine bA ?_ _)); exact a3.out) hb)
                        have n2_ := aM (bB (g := a5) (o := .cells #[.int .i64 0, .int .i64 0, .int .i64 0, .int .i64 0] 44 (0, 0)) (by (with_reducible repeat (first | refine bN ?_ _ | refine bD ?_ | refine bA ?_ _)); exact a7.out) hb)
                        have n3_ := aM (wP (by repeat (first | (with_reducible first | exact HB.out | apply wA | apply wN | apply wD | refine wS ?_ c0.out | refine wS ?_ c1.out | refine wS ?_ c4.out) | exact HB.out)) hb)
                        have n4_ := aM (hbox)
                        have n5_ := aM ((by rw [hg]; exact (below_size (by repeat (first | (with_reducible first | exact HB.out | apply wA | apply wN | apply wD | refine wS ?_ c0.out | refine wS ?_ c1.out | refine wS ?_ c4.out) | exact HB.out))) : w.heap.size ≤ a4))
                        have n6_ := aM ((by rw [hg]; exact (below_size (by repeat (first | (with_reducible first | exact HB.out | apply wA | apply wN | apply wD | refine wS ?_ c0.out | refine wS ?_ c1.out | refine wS ?_ c4.out) | exact HB.out))) : w.heap.size ≤ a4))
                        have n7_ := aM ((by rw [hg]; exact Nat.ne_of_lt (bL (g := a1) (o := .cells #[.int .i64 a0_0, .int .i64 a0_1, .int .i64 a0_2, .int .i64 a0_3] 44 (0, 0)) (by (with_reducible repeat (first | refine bN ?_ _ | refine bD ?_ | refine bA ?_ _)); exact a0.out)) : a1 ≠ a4))
                        have n8_ := aM ((by rw [hg]; exact Nat.ne_of_gt (bL (g := a1) (o := .cells #[.int .i64 a0_0, .int .i64 a0_1, .int .i64 a0_2, .int .i64 a0_3] 44 (0, 0)) (by (with_reducible repeat (first | refine bN ?_ _ | refine bD ?_ | refine bA ?_ _)); exact a0.out)) : a4 ≠ a1))
                        have n9_ := aM ((by rw [hg]; exact Nat.ne_of_lt (bL (g := a2) (o := .cells #[.int .i64 a1_0, .int .i64 a1_1, .int .i64 a1_2, .int .i64 a1_3] 44 (0, 0)) (by (with_reducible repeat (first | refine bN ?_ _ | refine bD ?_ | refine bA ?_ _)); exact a3.out)) : a2 ≠ a4))
                        have d9 := aM ((by rw [hg]; exact Nat.ne_of_gt (bL (g := a2) (o := .cells #[.int .i64 a1_0, .int .i64 a1_1, .int .i64 a1_2, .int .i64 a1_3] 44 (0, 0)) (by (with_reducible repeat (first | refine bN ?_ _ | refine bD ?_ | refine bA ?_ _)); exact a3.out)) : a4 ≠ a2))
                        have e0 := aM ((by rw [hg]; exact Nat.ne_of_lt (bL (g := a5) (o := .cells #[.int .i64 0, .int .i64 0, .int .i64 0, .int .i64 0] 44 (0, 0)) (by (with_reducible repeat (first | refine bN ?_ _ | refine bD ?_ | refine bA ?_ _)); exact a7.out)) : a5 ≠ a4))
                        have e1 := aM ((by rw [hg]; exact Nat.ne_of_gt (bL (g := a5) (o := .cells #[.int .i64 0, .int .i64 0, .int .i64 0, .int .i64 0] 44 (0, 0)) (by (with_reducible repeat (first | refine bN ?_ _ | refine bD ?_ | refine bA ?_ _)); exact a7.out)) : a4 ≠ a5))
                        clear a0
                        clear a3
                        clear a7
                        clear HB
                        have a0 := n0_
                        have a3 := n1_
                        have a7 := n2_
                        have HB := n3_
                        have a6 := n4_
                        have d6 := n5_
                        have c3 := n6_
                        have b2 := n7_
                        have c5 := n8_
                        have b3 := n9_
                        have c6 := d9
                        have c9 := e0
                        have d0 := e1
                        clear n0_ n1_ n2_ n3_ n4_ n5_ n6_ n7_ n8_ n9_ d9 e0 e1
                        clear hb hbox hg
                        refine hK.out _ _ ⟨(blk_cell a0.out 0).trans rfl, (blk_cell a0.out 1).trans rfl, (blk_cell a0.out 2).trans rfl, (blk_cell a0.out 3).trans rfl, (blk_cell a3.out 0).trans rfl, (blk_cell a3.out 1).trans rfl, (blk_cell a3.out 2).trans rfl, (blk_cell a3.out 3).trans rfl⟩ (fun hHeld => ?_)
                        clear hK K
                        refine norm_ (a' := ?_) ?_ ?_
                        rotate_left
                        ·show Act.put _ (some 5) _ = _
                         simp only [Act.put, List.setIfInBounds_toArray, List.set_cons_zero, List.set_cons_succ, i64_w, i32_w]
                         rfl
                        exact norm_ (by first | (simp only [putAll, Act.put, List.setIfInBounds_toArray, List.set_cons_zero, List.set_cons_succ]; done) | (simp only [putAll, Act.put, List.setIfInBounds_toArray, List.set_cons_zero, List.set_cons_succ]; rfl)) (j8 (a4, a5) _ ⟨hHeld, (by (with_reducible repeat (first | refine bN ?_ _ | refine bD ?_ | refine bA ?_ _)); exact a0.out), (by (with_reducible repeat (first | refine bN ?_ _ | refine bD ?_ | refine bA ?_ _)); exact a3.out), (by (with_reducible repeat (first | refine bN ?_ _ | refine bD ?_ | refine bA ?_ _)); exact a6.out), (by (with_reducible repeat (first | refine bN ?_ _ | refine bD ?_ | refine bA ?_ _)); exact a7.out), d6.out, c3.out, b2.out, c5.out, b3.out, c6.out, c9.out, d0.out, d7.out, c4.out, b4.out, c7.out, b5.out, c8.out, (by repeat (first | (with_reducible first | exact HB.out | apply wA | apply wN | apply wD | refine wS ?_ c0.out | refine wS ?_ c1.out | refine wS ?_ c4.out | refine wS ?_ c3.out) | exact HB.out))⟩)
                     ·skip
                      rintro a4 w79 ⟨hS_, h0_, h1_, h2_, h3_, h4_, h5_, h6_, h7_, h8_, h9_⟩
                      have n0_ : Aside0 (w79.heap[a1]? = some (.cells #[.int .i64 a0_0, .int .i64 a0_1, .int .i64 a0_2, .int .i64 a0_3] 44 (0, 0))) := ⟨h0_⟩
                      have n1_ : Aside0 (w79.heap[a2]? = some (.cells #[.int .i64 a1_0, .int .i64 a1_1, .int .i64 a1_2, .int .i64 a1_3] 44 (0, 0))) := ⟨h1_⟩
                      have n2_ : Aside0 (w79.heap[a4]? = some (.cells #[.int .i64 0, .int .i64 0, .int .i64 0, .int .i64 0] 44 (0, 0))) := ⟨h2_⟩
                      have n3_ : Aside0 (w.heap.size ≤ a4) := ⟨h3_⟩
                      have n4_ : Aside0 (w.heap.size ≤ a4) := ⟨h4_⟩
                      have n5_ : Aside0 (a1 ≠ a4) := ⟨h5_⟩
                      have n6_ : Aside0 (a4 ≠ a1) := ⟨h6_⟩
                      have n7_ : Aside0 (a2 ≠ a4) := ⟨h7_⟩
                      have n8_ : Aside0 (a4 ≠ a2) := ⟨h8_⟩
                      have n9_ : Aside0 (Below w.heap.size w w79) := ⟨h9_⟩
                      clear a0
                      clear a3
                      clear HB
                      clear h0_ h1_ h2_ h3_ h4_ h5_ h6_ h7_ h8_ h9_
                      have a0 := n0_
                      have a3 := n1_
                      have a6 := n2_
                      have d6 := n3_
                      have c3 := n4_
                      have b2 := n5_
                      have c5 := n6_
                      have b3 := n7_
                      have c6 := n8_
                      have HB := n9_
                      clear n0_ n1_ n2_ n3_ n4_ n5_ n6_ n7_ n8_ n9_
                      have hHeld : w79.cell? ⟨a1, 0, none⟩ = some (.int .i64 a0_0) ∧ w79.cell? ⟨a1, 1, none⟩ = some (.int .i64 a0_1) ∧ w79.cell? ⟨a1, 2, none⟩ = some (.int .i64 a0_2) ∧ w79.cell? ⟨a1, 3, none⟩ = some (.int .i64 a0_3) ∧ w79.cell? ⟨a2, 0, none⟩ = some (.int .i64 a1_0) ∧ w79.cell? ⟨a2, 1, none⟩ = some (.int .i64 a1_1) ∧ w79.cell? ⟨a2, 2, none⟩ = some (.int .i64 a1_2) ∧ w79.cell? ⟨a2, 3, none⟩ = some (.int .i64 a1_3) := hS_
                      refine norm_ (a' := ?_) ?_ ?_
                      rotate_left
                      ·simp only [putAll, Act.put, List.setIfInBounds_toArray, List.set_cons_zero, List.set_cons_succ]
                       rfl
                      refine two_ (i := 1) (j := 5) (Ni := some 20) (Nj := some 6) #[true, true, true, false, true, false, false, false] #[true, false, true, false, true, true, false, false] rfl rfl rfl rfl (two_of HT_.out (by kernel_rfl)) (by decide) (by decide) (fun K hK => ?_) (fun K hK => ?_)
                      ·skip
                       refine goes_ Tryd.func21 (by kernel_rfl) rfl #[.agg #[.int .i64 a0_0, .int .i64 a0_1, .int .i64 a0_2, .int .i64 a0_3]] (by rfl) rfl rfl (by (try simp only [List.map_toArray, List.map_cons, List.map_nil]); first | done | rfl | (simp only [List.length_drop, List.length_take]; rfl)) ?_
                       with_reducible refine (laws_rgFull.calls k a0_0 a0_1 a0_2 a0_3 a8 a9 b0 b1 _ A3.out).mono ?_
                       rintro e w80 ⟨rfl, hb⟩
                       refine ⟨_, rfl, ?_⟩
                       have n0_ := aM (bB (g := a1) (o := .cells #[.int .i64 a0_0, .int .i64 a0_1, .int .i64 a0_2, .int .i64 a0_3] 44 (0, 0)) (by (with_reducible repeat (first | refine bN ?_ _ | refine bD ?_ | refine bA ?_ _)); exact a0.out) hb)
                       have n1_ := aM (bB (g := a2) (o := .cells #[.int .i64 a1_0, .int .i64 a1_1, .int .i64 a1_2, .int .i64 a1_3] 44 (0, 0)) (by (with_reducible repeat (first | refine bN ?_ _ | refine bD ?_ | refine bA ?_ _)); exact a3.out) hb)
                       have n2_ := aM (bB (g := a4) (o := .cells #[.int .i64 0, .int .i64 0, .int .i64 0, .int .i64 0] 44 (0, 0)) (by (with_reducible repeat (first | refine bN ?_ _ | refine bD ?_ | refine bA ?_ _)); exact a6.out) hb)
                       have n3_ := aM (wP (by repeat (first | (with_reducible first | exact HB.out | apply wA | apply wN | apply wD | refine wS ?_ c0.out | refine wS ?_ c1.out | refine wS ?_ c3.out) | exact HB.out)) hb)
                       clear a0
                       clear a3
                       clear a6
                       clear HB
                       have a0 := n0_
                       have a3 := n1_
                       have a6 := n2_
                       have HB := n3_
                       clear n0_ n1_ n2_ n3_
                       (try clear hb)
                       (try clear hb2)
                       (try clear hk)
                       (try clear hi)
                       refine hK.out _ _ ⟨(blk_cell a0.out 0).trans rfl, (blk_cell a0.out 1).trans rfl, (blk_cell a0.out 2).trans rfl, (blk_cell a0.out 3).trans rfl, (blk_cell a3.out 0).trans rfl, (blk_cell a3.out 1).trans rfl, (blk_cell a3.out 2).trans rfl, (blk_cell a3.out 3).trans rfl⟩ (fun hHeld => ?_)
                       clear hK K
                       refine norm_ (a' := ?_) ?_ ?_
                       rotate_left
                       ·show Act.put _ (some 20) _ = _
                        simp only [Act.put, List.setIfInBounds_toArray, List.set_cons_zero, List.set_cons_succ, i64_w, i32_w]
                        rfl
                       exact norm_ (by first | (simp only [putAll, Act.put, List.setIfInBounds_toArray, List.set_cons_zero, List.set_cons_succ]; done) | (simp only [putAll, Act.put, List.setIfInBounds_toArray, List.set_cons_zero, List.set_cons_succ]; rfl)) (j6 (a4) _ ⟨hHeld, (by (with_reducible repeat (first | refine bN ?_ _ | refine bD ?_ | refine bA ?_ _)); exact a0.out), (by (with_reducible repeat (first | refine bN ?_ _ | refine bD ?_ | refine bA ?_ _)); exact a3.out), (by (with_reducible repeat (first | refine bN ?_ _ | refine bD ?_ | refine bA ?_ _)); exact a6.out), d6.out, c3.out, b2.out, c5.out, b3.out, c6.out, (by repeat (first | (with_reducible first | exact HB.out | apply wA | apply wN | apply wD | refine wS ?_ c0.out | refine wS ?_ c1.out | refine wS ?_ c3.out) | exact HB.out))⟩)
                      ·skip
                       refine box_step ?hg (N := 6) ?hd (cs := #[.int .i64 0, .int .i64 0, .int .i64 0, .int .i64 0]) (t := 44) ?hr ?_; (case hd => rfl); (case hg => rfl); (case hr => first | (go_simp; done) | (go_simp; rfl))
                       intro a5 hg w80 hbox hb
                       have n0_ := aM (bB (g := a1) (o := .cells #[.int .i64 a0_0, .int .i64 a0_1, .int .i64 a0_2, .int .i64 a0_3] 44 (0, 0)) (by (with_reducible repeat (first | refine bN ?_ _ | refine bD ?_ | refine bA ?_ _)); exact a0.out) hb)
                       have n1_ := aM (bB (g := a2) (o := .cells #[.int .i64 a1_0, .int .i64 a1_1, .int .i64 a1_2, .int .i64 a1_3] 44 (0, 0)) (by (with_reducible repeat (first | refine bN ?_ _ | refine bD ?_ | refine bA ?_ _)); exact a3.out) hb)
                       have n2_ := aM (bB (g := a4) (o := .cells #[.int .i64 0, .int .i64 0, .int .i64 0, .int .i64 0] 44 (0, 0)) (by (with_reducible repeat (first | refine bN ?_ _ | refine bD ?_ | refine bA ?_ _)); exact a6.out) hb)
                       have n3_ := aM (wP (by repeat (first | (with_reducible first | exact HB.out | apply wA | apply wN | apply wD | refine wS ?_ c0.out | refine wS ?_ c1.out | refine wS ?_ c3.out) | exact HB.out)) hb)
                       have n4_ := aM (hbox)
                       have n5_ := aM ((by rw [hg]; exact (below_size (by repeat (first | (with_reducible first | exact HB.out | apply wA | apply wN | apply wD | refine wS ?_ c0.out | refine wS ?_ c1.out | refine wS ?_ c3.out) | exact HB.out))) : w.heap.size ≤ a5))
                       have n6_ := aM ((by rw [hg]; exact (below_size (by repeat (first | (with_reducible first | exact HB.out | apply wA | apply wN | apply wD | refine wS ?_ c0.out | refine wS ?_ c1.out | refine wS ?_ c3.out) | exact HB.out))) : w.heap.size ≤ a5))
                       have n7_ := aM ((by rw [hg]; exact Nat.ne_of_lt (bL (g := a1) (o := .cells #[.int .i64 a0_0, .int .i64 a0_1, .int .i64 a0_2, .int .i64 a0_3] 44 (0, 0)) (by (with_reducible repeat (first | refine bN ?_ _ | refine bD ?_ | refine bA ?_ _)); exact a0.out)) : a1 ≠ a5))
                       have n8_ := aM ((by rw [hg]; exact Nat.ne_of_gt (bL (g := a1) (o := .cells #[.int .i64 a0_0, .int .i64 a0_1, .int .i64 a0_2, .int .i64 a0_3] 44 (0, 0)) (by (with_reducible repeat (first | refine bN ?_ _ | refine bD ?_ | refine bA ?_ _)); exact a0.out)) : a5 ≠ a1))
                       have n9_ := aM ((by rw [hg]; exact Nat.ne_of_lt (bL (g := a2) (o := .cells #[.int .i64 a1_0, .int .i64 a1_1, .int .i64 a1_2, .int .i64 a1_3] 44 (0, 0)) (by (with_reducible repeat (first | refine bN ?_ _ | refine bD ?_ | refine bA ?_ _)); exact a3.out)) : a2 ≠ a5))
                       have d9 := aM ((by rw [hg]; exact Nat.ne_of_gt (bL (g := a2) (o := .cells #[.int .i64 a1_0, .int .i64 a1_1, .int .i64 a1_2, .int .i64 a1_3] 44 (0, 0)) (by (with_reducible repeat (first | refine bN ?_ _ | refine bD ?_ | refine bA ?_ _)); exact a3.out)) : a5 ≠ a2))
                       have e0 := aM ((by rw [hg]; exact Nat.ne_of_lt (bL (g := a4) (o := .cells #[.int .i64 0, .int .i64 0, .int .i64 0, .int .i64 0] 44 (0, 0)) (by (with_reducible repeat (first | refine bN ?_ _ | refine bD ?_ | refine bA ?_ _)); exact a6.out)) : a4 ≠ a5))
                       have e1 := aM ((by rw [hg]; exact Nat.ne_of_gt (bL (g := a4) (o := .cells #[.int .i64 0, .int .i64 0, .int .i64 0, .int .i64 0] 44 (0, 0)) (by (with_reducible repeat (first | refine bN ?_ _ | refine bD ?_ | refine bA ?_ _)); exact a6.out)) : a5 ≠ a4))
                       clear a0
                       clear a3
                       clear a6
                       clear HB
                       have a0 := n0_
                       have a3 := n1_
                       have a6 := n2_
                       have HB := n3_
                       have a7 := n4_
                       have d7 := n5_
                       have c4 := n6_
                       have b4 := n7_
                       have c7 := n8_
                       have b5 := n9_
                       have c8 := d9
                       have d0 := e0
                       have c9 := e1
                       clear n0_ n1_ n2_ n3_ n4_ n5_ n6_ n7_ n8_ n9_ d9 e0 e1
                       clear hb hbox hg
                       refine hK.out _ _ ⟨(blk_cell a0.out 0).trans rfl, (blk_cell a0.out 1).trans rfl, (blk_cell a0.out 2).trans rfl, (blk_cell a0.out 3).trans rfl, (blk_cell a3.out 0).trans rfl, (blk_cell a3.out 1).trans rfl, (blk_cell a3.out 2).trans rfl, (blk_cell a3.out 3).trans rfl⟩ (fun hHeld => ?_)
                       clear hK K
                       refine norm_ (a' := ?_) ?_ ?_
                       rotate_left
                       ·show Act.put _ (some 6) _ = _
                        simp only [Act.put, List.setIfInBounds_toArray, List.set_cons_zero, List.set_cons_succ, i64_w, i32_w]
                        rfl
                       exact norm_ (by first | (simp only [putAll, Act.put, List.setIfInBounds_toArray, List.set_cons_zero, List.set_cons_succ]; done) | (simp only [putAll, Act.put, List.setIfInBounds_toArray, List.set_cons_zero, List.set_cons_succ]; rfl)) (j8 (a4, a5) _ ⟨hHeld, (by (with_reducible repeat (first | refine bN ?_ _ | refine bD ?_ | refine bA ?_ _)); exact a0.out), (by (with_reducible repeat (first | refine bN ?_ _ | refine bD ?_ | refine bA ?_ _)); exact a3.out), (by (with_reducible repeat (first | refine bN ?_ _ | refine bD ?_ | refine bA ?_ _)); exact a6.out), (by (with_reducible repeat (first | refine bN ?_ _ | refine bD ?_ | refine bA ?_ _)); exact a7.out), d6.out, c3.out, b2.out, c5.out, b3.out, c6.out, c9.out, d0.out, d7.out, c4.out, b4.out, c7.out, b5.out, c8.out, (by repeat (first | (with_reducible first | exact HB.out | apply wA | apply wN | apply wD | refine wS ?_ c0.out | refine wS ?_ c1.out | refine wS ?_ c3.out | refine wS ?_ c4.out) | exact HB.out))⟩)
                    ·skip
                     rintro _ w79 ⟨hS_, h0_, h1_, h2_⟩
                     have n0_ : Aside0 (w79.heap[a1]? = some (.cells #[.int .i64 a0_0, .int .i64 a0_1, .int .i64 a0_2, .int .i64 a0_3] 44 (0, 0))) := ⟨h0_⟩
                     have n1_ : Aside0 (w79.heap[a2]? = some (.cells #[.int .i64 a1_0, .int .i64 a1_1, .int .i64 a1_2, .int .i64 a1_3] 44 (0, 0))) := ⟨h1_⟩
                     have n2_ : Aside0 (Below w.heap.size w w79) := ⟨h2_⟩
                     clear a0
                     clear a3
                     clear HB
                     clear h0_ h1_ h2_
                     have a0 := n0_
                     have a3 := n1_
                     have HB := n2_
                     clear n0_ n1_ n2_
                     have hHeld : w79.cell? ⟨a1, 0, none⟩ = some (.int .i64 a0_0) ∧ w79.cell? ⟨a1, 1, none⟩ = some (.int .i64 a0_1) ∧ w79.cell? ⟨a1, 2, none⟩ = some (.int .i64 a0_2) ∧ w79.cell? ⟨a1, 3, none⟩ = some (.int .i64 a0_3) ∧ w79.cell? ⟨a2, 0, none⟩ = some (.int .i64 a1_0) ∧ w79.cell? ⟨a2, 1, none⟩ = some (.int .i64 a1_1) ∧ w79.cell? ⟨a2, 2, none⟩ = some (.int .i64 a1_2) ∧ w79.cell? ⟨a2, 3, none⟩ = some (.int .i64 a1_3) := hS_
                     refine norm_ (a' := ?_) ?_ ?_
                     rotate_left
                     ·simp only [putAll, Act.put, List.setIfInBounds_toArray, List.set_cons_zero, List.set_cons_succ]
                      rfl
                     refine three_ (i := 3) (j := 4) (k := 5) (Ni := some 22) (Nj := some 5) (Nk := some 6) #[true, true, true, true, false, false, false, false] #[true, true, true, false, true, false, false, false] #[true, true, true, false, false, true, false, false] rfl rfl rfl rfl rfl rfl (three_of HT_.out (by kernel_rfl)) (by decide) (by decide) (by decide) (fun K hK => ?_) (fun K hK => ?_) (fun K hK => ?_)
                     ·skip
                      refine goes_ Tryd.func21 (by kernel_rfl) rfl #[.agg #[.int .i64 a1_0, .int .i64 a1_1, .int .i64 a1_2, .int .i64 a1_3]] (by rfl) rfl rfl (by (try simp only [List.map_toArray, List.map_cons, List.map_nil]); first | done | rfl | (simp only [List.length_drop, List.length_take]; rfl)) ?_
                      with_reducible refine (laws_rgFull.calls k a1_0 a1_1 a1_2 a1_3 b6 b7 b8 b9 _ A4.out).mono ?_
                      rintro e w80 ⟨rfl, hb⟩
                      refine ⟨_, rfl, ?_⟩
                      have n0_ := aM (bB (g := a1) (o := .cells #[.int .i64 a0_0, .int .i64 a0_1, .int .i64 a0_2, .int .i64 a0_3] 44 (0, 0)) (by (with_reducible repeat (first | refine bN ?_ _ | refine bD ?_ | refine bA ?_ _)); exact a0.out) hb)
                      have n1_ := aM (bB (g := a2) (o := .cells #[.int .i64 a1_0, .int .i64 a1_1, .int .i64 a1_2, .int .i64 a1_3] 44 (0, 0)) (by (with_reducible repeat (first | refine bN ?_ _ | refine bD ?_ | refine bA ?_ _)); exact a3.out) hb)
                      have n2_ := aM (wP (by repeat (first | (with_reducible first | exact HB.out | apply wA | apply wN | apply wD | refine wS ?_ c0.out | refine wS ?_ c1.out) | exact HB.out)) hb)
                      clear a0
                      clear a3
                      clear HB
                      have a0 := n0_
                      have a3 := n1_
                      have HB := n2_
                      clear n0_ n1_ n2_
                      (try clear hb)
                      (try clear hb2)
                      (try clear hk)
                      (try clear hi)
                      refine hK.out _ _ ⟨(blk_cell a0.out 0).trans rfl, (blk_cell a0.out 1).trans rfl, (blk_cell a0.out 2).trans rfl, (blk_cell a0.out 3).trans rfl, (blk_cell a3.out 0).trans rfl, (blk_cell a3.out 1).trans rfl, (blk_cell a3.out 2).trans rfl, (blk_cell a3.out 3).trans rfl⟩ (fun hHeld => ?_)
                      clear hK K
                      refine norm_ (a' := ?_) ?_ ?_
                      rotate_left
                      ·show Act.put _ (some 22) _ = _
                       simp only [Act.put, List.setIfInBounds_toArray, List.set_cons_zero, List.set_cons_succ, i64_w, i32_w]
                       rfl
                      exact norm_ (by first | (simp only [putAll, Act.put, List.setIfInBounds_toArray, List.set_cons_zero, List.set_cons_succ]; done) | (simp only [putAll, Act.put, List.setIfInBounds_toArray, List.set_cons_zero, List.set_cons_succ]; rfl)) (l4 () _ ⟨hHeld, (by (with_reducible repeat (first | refine bN ?_ _ | refine bD ?_ | refine bA ?_ _)); exact a0.out), (by (with_reducible repeat (first | refine bN ?_ _ | refine bD ?_ | refine bA ?_ _)); exact a3.out), (by repeat (first | (with_reducible first | exact HB.out | apply wA | apply wN | apply wD | refine wS ?_ c0.out | refine wS ?_ c1.out) | exact HB.out))⟩)
                     ·skip
                      refine box_step ?hg (N := 5) ?hd (cs := #[.int .i64 0, .int .i64 0, .int .i64 0, .int .i64 0]) (t := 44) ?hr ?_; (case hd => rfl); (case hg => rfl); (case hr => first | (go_simp; done) | (go_simp; rfl))
                      intro a4 hg w80 hbox hb
                      have n0_ := aM (bB (g := a1) (o := .cells #[.int .i64 a0_0, .int .i64 a0_1, .int .i64 a0_2, .int .i64 a0_3] 44 (0, 0)) (by (with_reducible repeat (first | refine bN ?_ _ | refine bD ?_ | refine bA ?_ _)); exact a0.out) hb)
                      have n1_ := aM (bB (g := a2) (o := .cells #[.int .i64 a1_0, .int .i64 a1_1, .int .i64 a1_2, .int .i64 a1_3] 44 (0, 0)) (by (with_reducible repeat (first | refine bN ?_ _ | refine bD ?_ | refine bA ?_ _)); exact a3.out) hb)
                      have n2_ := aM (wP (by repeat (first | (with_reducible first | exact HB.out | apply wA | apply wN | apply wD | refine wS ?_ c0.out | refine wS ?_ c1.out) | exact HB.out)) hb)
                      have n3_ := aM (hbox)
                      have n4_ := aM ((by rw [hg]; exact (below_size (by repeat (first | (with_reducible first | exact HB.out | apply wA | apply wN | apply wD | refine wS ?_ c0.out | refine wS ?_ c1.out) | exact HB.out))) : w.heap.size ≤ a4))
                      have n5_ := aM ((by rw [hg]; exact (below_size (by repeat (first | (with_reducible first | exact HB.out | apply wA | apply wN | apply wD | refine wS ?_ c0.out | refine wS ?_ c1.out) | exact HB.out))) : w.heap.size ≤ a4))
                      have n6_ := aM ((by rw [hg]; exact Nat.ne_of_lt (bL (g := a1) (o := .cells #[.int .i64 a0_0, .int .i64 a0_1, .int .i64 a0_2, .int .i64 a0_3] 44 (0, 0)) (by (with_reducible repeat (first | refine bN ?_ _ | refine bD ?_ | refine bA ?_ _)); exact a0.out)) : a1 ≠ a4))
                      have n7_ := aM ((by rw [hg]; exact Nat.ne_of_gt (bL (g := a1) (o := .cells #[.int .i64 a0_0, .int .i64 a0_1, .int .i64 a0_2, .int .i64 a0_3] 44 (0, 0)) (by (with_reducible repeat (first | refine bN ?_ _ | refine bD ?_ | refine bA ?_ _)); exact a0.out)) : a4 ≠ a1))
                      have n8_ := aM ((by rw [hg]; exact Nat.ne_of_lt (bL (g := a2) (o := .cells #[.int .i64 a1_0, .int .i64 a1_1, .int .i64 a1_2, .int .i64 a1_3] 44 (0, 0)) (by (with_reducible repeat (first | refine bN ?_ _ | refine bD ?_ | refine bA ?_ _)); exact a3.out)) : a2 ≠ a4))
                      have n9_ := aM ((by rw [hg]; exact Nat.ne_of_gt (bL (g := a2) (o := .cells #[.int .i64 a1_0, .int .i64 a1_1, .int .i64 a1_2, .int .i64 a1_3] 44 (0, 0)) (by (with_reducible repeat (first | refine bN ?_ _ | refine bD ?_ | refine bA ?_ _)); exact a3.out)) : a4 ≠ a2))
                      clear a0
                      clear a3
                      clear HB
                      have a0 := n0_
                      have a3 := n1_
                      have HB := n2_
                      have a6 := n3_
                      have d6 := n4_
                      have c3 := n5_
                      have b2 := n6_
                      have c5 := n7_
                      have b3 := n8_
                      have c6 := n9_
                      clear n0_ n1_ n2_ n3_ n4_ n5_ n6_ n7_ n8_ n9_
                      clear hb hbox hg
                      refine hK.out _ _ ⟨(blk_cell a0.out 0).trans rfl, (blk_cell a0.out 1).trans rfl, (blk_cell a0.out 2).trans rfl, (blk_cell a0.out 3).trans rfl, (blk_cell a3.out 0).trans rfl, (blk_cell a3.out 1).trans rfl, (blk_cell a3.out 2).trans rfl, (blk_cell a3.out 3).trans rfl⟩ (fun hHeld => ?_)
                      clear hK K
                      refine norm_ (a' := ?_) ?_ ?_
                      rotate_left
                      ·show Act.put _ (some 5) _ = _
                       simp only [Act.put, List.setIfInBounds_toArray, List.set_cons_zero, List.set_cons_succ, i64_w, i32_w]
                       rfl
                      exact norm_ (by first | (simp only [putAll, Act.put, List.setIfInBounds_toArray, List.set_cons_zero, List.set_cons_succ]; done) | (simp only [putAll, Act.put, List.setIfInBounds_toArray, List.set_cons_zero, List.set_cons_succ]; rfl)) (j6 (a4) _ ⟨hHeld, (by (with_reducible repeat (first | refine bN ?_ _ | refine bD ?_ | refine bA ?_ _)); exact a0.out), (by (with_reducible repeat (first | refine bN ?_ _ | refine bD ?_ | refine bA ?_ _)); exact a3.out), (by (with_reducible repeat (first | refine bN ?_ _ | refine bD ?_ | refine bA ?_ _)); exact a6.out), d6.out, c3.out, b2.out, c5.out, b3.out, c6.out, (by repeat (first | (with_reducible first | exact HB.out | apply wA | apply wN | apply wD | refine wS ?_ c0.out | refine wS ?_ c1.out | refine wS ?_ c3.out) | exact HB.out))⟩)
                     ·skip
                      refine box_step ?hg (N := 6) ?hd (cs := #[.int .i64 0, .int .i64 0, .int .i64 0, .int .i64 0]) (t := 44) ?hr ?_; (case hd => rfl); (case hg => rfl); (case hr => first | (go_simp; done) | (go_simp; rfl))
                      intro a5 hg w80 hbox hb
                      have n0_ := aM (bB (g := a1) (o := .cells #[.int .i64 a0_0, .int .i64 a0_1, .int .i64 a0_2, .int .i64 a0_3] 44 (0, 0)) (by (with_reducible repeat (first | refine bN ?_ _ | refine bD ?_ | refine bA ?_ _)); exact a0.out) hb)
                      have n1_ := aM (bB (g := a2) (o := .cells #[.int .i64 a1_0, .int .i64 a1_1, .int .i64 a1_2, .int .i64 a1_3] 44 (0, 0)) (by (with_reducible repeat (first | refine bN ?_ _ | refine bD ?_ | refine bA ?_ _)); exact a3.out) hb)
                      have n2_ := aM (wP (by repeat (first | (with_reducible first | exact HB.out | apply wA | apply wN | apply wD | refine wS ?_ c0.out | refine wS ?_ c1.out) | exact HB.out)) hb)
                      have n3_ := aM (hbox)
                      have n4_ := aM ((by rw [hg]; exact (below_size (by repeat (first | (with_reducible first | exact HB.out | apply wA | apply wN | apply wD | refine wS ?_ c0.out | refine wS ?_ c1.out) | exact HB.out))) : w.heap.size ≤ a5))
                      have n5_ := aM ((by rw [hg]; exact (below_size (by repeat (first | (with_reducible first | exact HB.out | apply wA | apply wN | apply wD | refine wS ?_ c0.out | refine wS ?_ c1.out) | exact HB.out))) : w.heap.size ≤ a5))
                      have n6_ := aM ((by rw [hg]; exact Nat.ne_of_lt (bL (g := a1) (o := .cells #[.int .i64 a0_0, .int .i64 a0_1, .int .i64 a0_2, .int .i64 a0_3] 44 (0, 0)) (by (with_reducible repeat (first | refine bN ?_ _ | refine bD ?_ | refine bA ?_ _)); exact a0.out)) : a1 ≠ a5))
                      have n7_ := aM ((by rw [hg]; exact Nat.ne_of_gt (bL (g := a1) (o := .cells #[.int .i64 a0_0, .int .i64 a0_1, .int .i64 a0_2, .int .i64 a0_3] 44 (0, 0)) (by (with_reducible repeat (first | refine bN ?_ _ | refine bD ?_ | refine bA ?_ _)); exact a0.out)) : a5 ≠ a1))
                      have n8_ := aM ((by rw [hg]; exact Nat.ne_of_lt (bL (g := a2) (o := .cells #[.int .i64 a1_0, .int .i64 a1_1, .int .i64 a1_2, .int .i64 a1_3] 44 (0, 0)) (by (with_reducible repeat (first | refine bN ?_ _ | refine bD ?_ | refine bA ?_ _)); exact a3.out)) : a2 ≠ a5))
                      have n9_ := aM ((by rw [hg]; exact Nat.ne_of_gt (bL (g := a2) (o := .cells #[.int .i64 a1_0, .int .i64 a1_1, .int .i64 a1_2, .int .i64 a1_3] 44 (0, 0)) (by (with_reducible repeat (first | refine bN ?_ _ | refine bD ?_ | refine bA ?_ _)); exact a3.out)) : a5 ≠ a2))
                      clear a0
                      clear a3
                      clear HB
                      have a0 := n0_
                      have a3 := n1_
                      have HB := n2_
                      have a7 := n3_
                      have d7 := n4_
                      have c4 := n5_
                      have b4 := n6_
                      have c7 := n7_
                      have b5 := n8_
                      have c8 := n9_
                      clear n0_ n1_ n2_ n3_ n4_ n5_ n6_ n7_ n8_ n9_
                      clear hb hbox hg
                      refine hK.out _ _ ⟨(blk_cell a0.out 0).trans rfl, (blk_cell a0.out 1).trans rfl, (blk_cell a0.out 2).trans rfl, (blk_cell a0.out 3).trans rfl, (blk_cell a3.out 0).trans rfl, (blk_cell a3.out 1).trans rfl, (blk_cell a3.out 2).trans rfl, (blk_cell a3.out 3).trans rfl⟩ (fun hHeld => ?_)
                      clear hK K
                      refine norm_ (a' := ?_) ?_ ?_
                      rotate_left
                      ·show Act.put _ (some 6) _ = _
                       simp only [Act.put, List.setIfInBounds_toArray, List.set_cons_zero, List.set_cons_succ, i64_w, i32_w]
                       rfl
                      exact norm_ (by first | (simp only [putAll, Act.put, List.setIfInBounds_toArray, List.set_cons_zero, List.set_cons_succ]; done) | (simp only [putAll, Act.put, List.setIfInBounds_toArray, List.set_cons_zero, List.set_cons_succ]; rfl)) (j7 (a5) _ ⟨hHeld, (by (with_reducible repeat (first | refine bN ?_ _ | refine bD ?_ | refine bA ?_ _)); exact a0.out), (by (with_reducible repeat (first | refine bN ?_ _ | refine bD ?_ | refine bA ?_ _)); exact a3.out), (by (with_reducible repeat (first | refine bN ?_ _ | refine bD ?_ | refine bA ?_ _)); exact a7.out), d7.out, c4.out, b4.out, c7.out, b5.out, c8.out, (by repeat (first | (with_reducible first | exact HB.out | apply wA | apply wN | apply wD | refine wS ?_ c0.out | refine wS ?_ c1.out | refine wS ?_ c4.out) | exact HB.out))⟩)
                   ·skip
                    rintro ⟨a4, a5⟩ w80 ⟨hS_, h0_, h1_, h2_, h3_, h4_, h5_, h6_, h7_, h8_, h9_, f4, f5, f6, f7, f8, f9, g0, g1, g2⟩
                    have n0_ : Aside0 (w80.heap[a1]? = some (.cells #[.int .i64 a0_0, .int .i64 a0_1, .int .i64 a0_2, .int .i64 a0_3] 44 (0, 0))) := ⟨h0_⟩
                    have n1_ : Aside0 (w80.heap[a2]? = some (.cells #[.int .i64 a1_0, .int .i64 a1_1, .int .i64 a1_2, .int .i64 a1_3] 44 (0, 0))) := ⟨h1_⟩
                    have n2_ : Aside0 (w80.heap[a4]? = some (.cells #[.int .i64 0, .int .i64 0, .int .i64 0, .int .i64 0] 44 (0, 0))) := ⟨h2_⟩
                    have n3_ : Aside0 (w80.heap[a5]? = some (.cells #[.int .i64 0, .int .i64 0, .int .i64 0, .int .i64 0] 44 (0, 0))) := ⟨h3_⟩
                    have n4_ : Aside0 (w.heap.size ≤ a4) := ⟨h4_⟩
                    have n5_ : Aside0 (w.heap.size ≤ a4) := ⟨h5_⟩
                    have n6_ : Aside0 (a1 ≠ a4) := ⟨h6_⟩
                    have n7_ : Aside0 (a4 ≠ a1) := ⟨h7_⟩
                    have n8_ : Aside0 (a2 ≠ a4) := ⟨h8_⟩
                    have n9_ : Aside0 (a4 ≠ a2) := ⟨h9_⟩
                    have d9 : Aside0 (a5 ≠ a4) := ⟨f4⟩
                    have e0 : Aside0 (a4 ≠ a5) := ⟨f5⟩
                    have e1 : Aside0 (w.heap.size ≤ a5) := ⟨f6⟩
                    have g3 : Aside0 (w.heap.size ≤ a5) := ⟨f7⟩
                    have g4 : Aside0 (a1 ≠ a5) := ⟨f8⟩
                    have g5 : Aside0 (a5 ≠ a1) := ⟨f9⟩
                    have g6 : Aside0 (a2 ≠ a5) := ⟨g0⟩
                    have g7 : Aside0 (a5 ≠ a2) := ⟨g1⟩
                    have g8 : Aside0 (Below w.heap.size w w80) := ⟨g2⟩
                    clear a0
                    clear a3
                    clear HB
                    clear h0_ h1_ h2_ h3_ h4_ h5_ h6_ h7_ h8_ h9_ f4 f5 f6 f7 f8 f9 g0 g1 g2
                    have a0 := n0_
                    have a3 := n1_
                    have a6 := n2_
                    have a7 := n3_
                    have d6 := n4_
                    have c3 := n5_
                    have b2 := n6_
                    have c5 := n7_
                    have b3 := n8_
                    have c6 := n9_
                    have c9 := d9
                    have d0 := e0
                    have d7 := e1
                    have c4 := g3
                    have b4 := g4
                    have c7 := g5
                    have b5 := g6
                    have c8 := g7
                    have HB := g8
                    clear n0_ n1_ n2_ n3_ n4_ n5_ n6_ n7_ n8_ n9_ d9 e0 e1 g3 g4 g5 g6 g7 g8
                    have hHeld : w80.cell? ⟨a1, 0, none⟩ = some (.int .i64 a0_0) ∧ w80.cell? ⟨a1, 1, none⟩ = some (.int .i64 a0_1) ∧ w80.cell? ⟨a1, 2, none⟩ = some (.int .i64 a0_2) ∧ w80.cell? ⟨a1, 3, none⟩ = some (.int .i64 a0_3) ∧ w80.cell? ⟨a2, 0, none⟩ = some (.int .i64 a1_0) ∧ w80.cell? ⟨a2, 1, none⟩ = some (.int .i64 a1_1) ∧ w80.cell? ⟨a2, 2, none⟩ = some (.int .i64 a1_2) ∧ w80.cell? ⟨a2, 3, none⟩ = some (.int .i64 a1_3) := hS_
                    refine norm_ (a' := ?_) ?_ ?_
                    rotate_left
                    ·simp only [putAll, Act.put, List.setIfInBounds_toArray, List.set_cons_zero, List.set_cons_succ]
                     rfl
                    refine one_ (i := 1) (N := some 20) #[true, true, true, false, true, true, false, false] rfl rfl (one_of HT_.out (by kernel_rfl)) (by decide) (fun K hK => ?_)
                    refine goes_ Tryd.func21 (by kernel_rfl) rfl #[.agg #[.int .i64 a0_0, .int .i64 a0_1, .int .i64 a0_2, .int .i64 a0_3]] (by rfl) rfl rfl (by (try simp only [List.map_toArray, List.map_cons, List.map_nil]); first | done | rfl | (simp only [List.length_drop, List.length_take]; rfl)) ?_
                    with_reducible refine (laws_rgFull.calls k a0_0 a0_1 a0_2 a0_3 a8 a9 b0 b1 _ A3.out).mono ?_
                    rintro e w81 ⟨rfl, hb⟩
                    refine ⟨_, rfl, ?_⟩
                    have n0_ := aM (bB (g := a1) (o := .cells #[.int .i64 a0_0, .int .i64 a0_1, .int .i64 a0_2, .int .i64 a0_3] 44 (0, 0)) (by (with_reducible repeat (first | refine bN ?_ _ | refine bD ?_ | refine bA ?_ _)); exact a0.out) hb)
                    have n1_ := aM (bB (g := a2) (o := .cells #[.int .i64 a1_0, .int .i64 a1_1, .int .i64 a1_2, .int .i64 a1_3] 44 (0, 0)) (by (with_reducible repeat (first | refine bN ?_ _ | refine bD ?_ | refine bA ?_ _)); exact a3.out) hb)
                    have n2_ := aM (bB (g := a4) (o := .cells #[.int .i64 0, .int .i64 0, .int .i64 0, .int .i64 0] 44 (0, 0)) (by (with_reducible repeat (first | refine bN ?_ _ | refine bD ?_ | refine bA ?_ _)); exact a6.out) hb)
                    have n3_ := aM (bB (g := a5) (o := .cells #[.int .i64 0, .int .i64 0, .int .i64 0, .int .i64 0] 44 (0, 0)) (by (with_reducible repeat (first | refine bN ?_ _ | refine bD ?_ | refine bA ?_ _)); exact a7.out) hb)
                    have n4_ := aM (wP (by repeat (first | (with_reducible first | exact HB.out | apply wA | apply wN | apply wD | refine wS ?_ c0.out | refine wS ?_ c1.out | refine wS ?_ c3.out | refine wS ?_ c4.out) | exact HB.out)) hb)
                    clear a0
                    clear a3
                    clear a6
                    clear a7
                    clear HB
                    have a0 := n0_
                    have a3 := n1_
                    have a6 := n2_
                    have a7 := n3_
                    have HB := n4_
                    clear n0_ n1_ n2_ n3_ n4_
                    (try clear hb)
                    (try clear hb2)
                    (try clear hk)
                    (try clear hi)
                    refine hK.out _ _ ⟨(blk_cell a0.out 0).trans rfl, (blk_cell a0.out 1).trans rfl, (blk_cell a0.out 2).trans rfl, (blk_cell a0.out 3).trans rfl, (blk_cell a3.out 0).trans rfl, (blk_cell a3.out 1).trans rfl, (blk_cell a3.out 2).trans rfl, (blk_cell a3.out 3).trans rfl⟩ (fun hHeld => ?_)
                    clear hK K
                    refine norm_ (a' := ?_) ?_ ?_
                    rotate_left
                    ·show Act.put _ (some 20) _ = _
                     simp only [Act.put, List.setIfInBounds_toArray, List.set_cons_zero, List.set_cons_succ, i64_w, i32_w]
                     rfl
                    exact norm_ (by first | (simp only [putAll, Act.put, List.setIfInBounds_toArray, List.set_cons_zero, List.set_cons_succ]; done) | (simp only [putAll, Act.put, List.setIfInBounds_toArray, List.set_cons_zero, List.set_cons_succ]; rfl)) (j1 (a4, a5) _ ⟨hHeld, (by (with_reducible repeat (first | refine bN ?_ _ | refine bD ?_ | refine bA ?_ _)); exact a0.out), (by (with_reducible repeat (first | refine bN ?_ _ | refine bD ?_ | refine bA ?_ _)); exact a3.out), (by (with_reducible repeat (first | refine bN ?_ _ | refine bD ?_ | refine bA ?_ _)); exact a6.out), (by (with_reducible repeat (first | refine bN ?_ _ | refine bD ?_ | refine bA ?_ _)); exact a7.out), d6.out, c3.out, b2.out, c5.out, b3.out, c6.out, c9.out, d0.out, d7.out, c4.out, b4.out, c7.out, b5.out, c8.out, (by repeat (first | (with_reducible first | exact HB.out | apply wA | apply wN | apply wD | refine wS ?_ c0.out | refine wS ?_ c1.out | refine wS ?_ c3.out | refine wS ?_ c4.out) | exact HB.out))⟩)
                  ·skip
                   rintro a5 w80 ⟨hS_, h0_, h1_, h2_, h3_, h4_, h5_, h6_, h7_, h8_, h9_⟩
                   have n0_ : Aside0 (w80.heap[a1]? = some (.cells #[.int .i64 a0_0, .int .i64 a0_1, .int .i64 a0_2, .int .i64 a0_3] 44 (0, 0))) := ⟨h0_⟩
                   have n1_ : Aside0 (w80.heap[a2]? = some (.cells #[.int .i64 a1_0, .int .i64 a1_1, .int .i64 a1_2, .int .i64 a1_3] 44 (0, 0))) := ⟨h1_⟩
                   have n2_ : Aside0 (w80.heap[a5]? = some (.cells #[.int .i64 0, .int .i64 0, .int .i64 0, .int .i64 0] 44 (0, 0))) := ⟨h2_⟩
                   have n3_ : Aside0 (w.heap.size ≤ a5) := ⟨h3_⟩
                   have n4_ : Aside0 (w.heap.size ≤ a5) := ⟨h4_⟩
                   have n5_ : Aside0 (a1 ≠ a5) := ⟨h5_⟩
                   have n6_ : Aside0 (a5 ≠ a1) := ⟨h6_⟩
                   have n7_ : Aside0 (a2 ≠ a5) := ⟨h7_⟩
                   have n8_ : Aside0 (a5 ≠ a2) := ⟨h8_⟩
                   have n9_ : Aside0 (Below w.heap.size w w80) := ⟨h9_⟩
                   clear a0
                   clear a3
                   clear HB
                   clear h0_ h1_ h2_ h3_ h4_ h5_ h6_ h7_ h8_ h9_
                   have a0 := n0_
                   have a3 := n1_
                   have a7 := n2_
                   have d7 := n3_
                   have c4 := n4_
                   have b4 := n5_
                   have c7 := n6_
                   have b5 := n7_
                   have c8 := n8_
                   have HB := n9_
                   clear n0_ n1_ n2_ n3_ n4_ n5_ n6_ n7_ n8_ n9_
                   have hHeld : w80.cell? ⟨a1, 0, none⟩ = some (.int .i64 a0_0) ∧ w80.cell? ⟨a1, 1, none⟩ = some (.int .i64 a0_1) ∧ w80.cell? ⟨a1, 2, none⟩ = some (.int .i64 a0_2) ∧ w80.cell? ⟨a1, 3, none⟩ = some (.int .i64 a0_3) ∧ w80.cell? ⟨a2, 0, none⟩ = some (.int .i64 a1_0) ∧ w80.cell? ⟨a2, 1, none⟩ = some (.int .i64 a1_1) ∧ w80.cell? ⟨a2, 2, none⟩ = some (.int .i64 a1_2) ∧ w80.cell? ⟨a2, 3, none⟩ = some (.int .i64 a1_3) := hS_
                   refine norm_ (a' := ?_) ?_ ?_
                   rotate_left
                   ·simp only [putAll, Act.put, List.setIfInBounds_toArray, List.set_cons_zero, List.set_cons_succ]
                    rfl
                   refine two_ (i := 3) (j := 4) (Ni := some 22) (Nj := some 5) #[true, true, true, true, false, true, false, false] #[true, true, true, false, true, true, false, false] rfl rfl rfl rfl (two_of HT_.out (by kernel_rfl)) (by decide) (by decide) (fun K hK => ?_) (fun K hK => ?_)
                   ·skip
                    refine goes_ Tryd.func21 (by kernel_rfl) rfl #[.agg #[.int .i64 a1_0, .int .i64 a1_1, .int .i64 a1_2, .int .i64 a1_3]] (by rfl) rfl rfl (by (try simp only [List.map_toArray, List.map_cons, List.map_nil]); first | done | rfl | (simp only [List.length_drop, List.length_take]; rfl)) ?_
                    with_reducible refine (laws_rgFull.calls k a1_0 a1_1 a1_2 a1_3 b6 b7 b8 b9 _ A4.out).mono ?_
                    rintro e w81 ⟨rfl, hb⟩
                    refine ⟨_, rfl, ?_⟩
                    have n0_ := aM (bB (g := a1) (o := .cells #[.int .i64 a0_0, .int .i64 a0_1, .int .i64 a0_2, .int .i64 a0_3] 44 (0, 0)) (by (with_reducible repeat (first | refine bN ?_ _ | refine bD ?_ | refine bA ?_ _)); exact a0.out) hb)
                    have n1_ := aM (bB (g := a2) (o := .cells #[.int .i64 a1_0, .int .i64 a1_1, .int .i64 a1_2, .int .i64 a1_3] 44 (0, 0)) (by (with_reducible repeat (first | refine bN ?_ _ | refine bD ?_ | refine bA ?_ _)); exact a3.out) hb)
                    have n2_ := aM (bB (g := a5) (o := .cells #[.int .i64 0, .int .i64 0, .int .i64 0, .int .i64 0] 44 (0, 0)) (by (with_reducible repeat (first | refine bN ?_ _ | refine bD ?_ | refine bA ?_ _)); exact a7.out) hb)
                    have n3_ := aM (wP (by repeat (first | (with_reducible first | exact HB.out | apply wA | apply wN | apply wD | refine wS ?_ c0.out | refine wS ?_ c1.out | refine wS ?_ c4.out) | exact HB.out)) hb)
                    clear a0
                    clear a3
                    clear a7
                    clear HB
                    have a0 := n0_
                    have a3 := n1_
                    have a7 := n2_
                    have HB := n3_
                    clear n0_ n1_ n2_ n3_
                    (try clear hb)
                    (try clear hb2)
                    (try clear hk)
                    (try clear hi)
                    refine hK.out _ _ ⟨(blk_cell a0.out 0).trans rfl, (blk_cell a0.out 1).trans rfl, (blk_cell a0.out 2).trans rfl, (blk_cell a0.out 3).trans rfl, (blk_cell a3.out 0).trans rfl, (blk_cell a3.out 1).trans rfl, (blk_cell a3.out 2).trans rfl, (blk_cell a3.out 3).trans rfl⟩ (fun hHeld => ?_)
                    clear hK K
                    refine norm_ (a' := ?_) ?_ ?_
                    rotate_left
                    ·show Act.put _ (some 22) _ = _
                     simp only [Act.put, List.setIfInBounds_toArray, List.set_cons_zero, List.set_cons_succ, i64_w, i32_w]
                     rfl
                    exact norm_ (by first | (simp only [putAll, Act.put, List.setIfInBounds_toArray, List.set_cons_zero, List.set_cons_succ]; done) | (simp only [putAll, Act.put, List.setIfInBounds_toArray, List.set_cons_zero, List.set_cons_succ]; rfl)) (j3 (a5) _ ⟨hHeld, (by (with_reducible repeat (first | refine bN ?_ _ | refine bD ?_ | refine bA ?_ _)); exact a0.out), (by (with_reducible repeat (first | refine bN ?_ _ | refine bD ?_ | refine bA ?_ _)); exact a3.out), (by (with_reducible repeat (first | refine bN ?_ _ | refine bD ?_ | refine bA ?_ _)); exact a7.out), d7.out, c4.out, b4.out, c7.out, b5.out, c8.out, (by repeat (first | (with_reducible first | exact HB.out | apply wA | apply wN | apply wD | refine wS ?_ c0.out | refine wS ?_ c1.out | refine wS ?_ c4.out) | exact HB.out))⟩)
                   ·skip
                    refine box_step ?hg (N := 5) ?hd (cs := #[.int .i64 0, .int .i64 0, .int .i64 0, .int .i64 0]) (t := 44) ?hr ?_; (case hd => rfl); (case hg => rfl); (case hr => first | (go_simp; done) | (go_simp; rfl))
                    intro a4 hg w81 hbox hb
                    have n0_ := aM (bB (g := a1) (o := .cells #[.int .i64 a0_0, .int .i64 a0_1, .int .i64 a0_2, .int .i64 a0_3] 44 (0, 0)) (by (with_reducible repeat (first | refine bN ?_ _ | refine bD ?_ | refine bA ?_ _)); exact a0.out) hb)
                    have n1_ := aM (bB (g := a2) (o := .cells #[.int .i64 a1_0, .int .i64 a1_1, .int .i64 a1_2, .int .i64 a1_3] 44 (0, 0)) (by (with_reducible repeat (first | refine bN ?_ _ | refine bD ?_ | refine bA ?_ _)); exact a3.out) hb)
                    have n2_ := aM (bB (g := a5) (o := .cells #[.int .i64 0, .int .i64 0, .int .i64 0, .int .i64 0] 44 (0, 0)) (by (with_reducible repeat (first | refine bN ?_ _ | refine bD ?_ | refine bA ?_ _)); exact a7.out) hb)
                    have n3_ := aM (wP (by repeat (first | (with_reducible first | exact HB.out | apply wA | apply wN | apply wD | refine wS ?_ c0.out | refine wS ?_ c1.out | refine wS ?_ c4.out) | exact HB.out)) hb)
                    have n4_ := aM (hbox)
                    have n5_ := aM ((by rw [hg]; exact (below_size (by repeat (first | (with_reducible first | exact HB.out | apply wA | apply wN | apply wD | refine wS ?_ c0.out | refine wS ?_ c1.out | refine wS ?_ c4.out) | exact HB.out))) : w.heap.size ≤ a4))
                    have n6_ := aM ((by rw [hg]; exact (below_size (by repeat (first | (with_reducible first | exact HB.out | apply wA | apply wN | apply wD | refine wS ?_ c0.out | refine wS ?_ c1.out | refine wS ?_ c4.out) | exact HB.out))) : w.heap.size ≤ a4))
                    have n7_ := aM ((by rw [hg]; exact Nat.ne_of_lt (bL (g := a1) (o := .cells #[.int .i64 a0_0, .int .i64 a0_1, .int .i64 a0_2, .int .i64 a0_3] 44 (0, 0)) (by (with_reducible repeat (first | refine bN ?_ _ | refine bD ?_ | refine bA ?_ _)); exact a0.out)) : a1 ≠ a4))
                    have n8_ := aM ((by rw [hg]; exact Nat.ne_of_gt (bL (g := a1) (o := .cells #[.int .i64 a0_0, .int .i64 a0_1, .int .i64 a0_2, .int .i64 a0_3] 44 (0, 0)) (by (with_reducible repeat (first | refine bN ?_ _ | refine bD ?_ | refine bA ?_ _)); exact a0.out)) : a4 ≠ a1))
                    have n9_ := aM ((by rw [hg]; exact Nat.ne_of_lt (bL (g := a2) (o := .cells #[.int .i64 a1_0, .int .i64 a1_1, .int .i64 a1_2, .int .i64 a1_3] 44 (0, 0)) (by (with_reducible repeat (first | refine bN ?_ _ | refine bD ?_ | refine bA ?_ _)); exact a3.out)) : a2 ≠ a4))
                    have d9 := aM ((by rw [hg]; exact Nat.ne_of_gt (bL (g := a2) (o := .cells #[.int .i64 a1_0, .int .i64 a1_1, .int .i64 a1_2, .int .i64 a1_3] 44 (0, 0)) (by (with_reducible repeat (first | refine bN ?_ _ | refine bD ?_ | refine bA ?_ _)); exact a3.out)) : a4 ≠ a2))
                    have e0 := aM ((by rw [hg]; exact Nat.ne_of_lt (bL (g := a5) (o := .cells #[.int .i64 0, .int .i64 0, .int .i64 0, .int .i64 0] 44 (0, 0)) (by (with_reducible repeat (first | refine bN ?_ _ | refine bD ?_ | refine bA ?_ _)); exact a7.out)) : a5 ≠ a4))
                    have e1 := aM ((by rw [hg]; exact Nat.ne_of_gt (bL (g := a5) (o := .cells #[.int .i64 0, .int .i64 0, .int .i64 0, .int .i64 0] 44 (0, 0)) (by (with_reducible repeat (first | refine bN ?_ _ | refine bD ?_ | refine bA ?_ _)); exact a7.out)) : a4 ≠ a5))
                    clear a0
                    clear a3
                    clear a7
                    clear HB
                    have a0 := n0_
                    have a3 := n1_
                    have a7 := n2_
                    have HB := n3_
                    have a6 := n4_
                    have d6 := n5_
                    have c3 := n6_
                    have b2 := n7_
                    have c5 := n8_
                    have b3 := n9_
                    have c6 := d9
                    have c9 := e0
                    have d0 := e1
                    clear n0_ n1_ n2_ n3_ n4_ n5_ n6_ n7_ n8_ n9_ d9 e0 e1
                    clear hb hbox hg
                    refine hK.out _ _ ⟨(blk_cell a0.out 0).trans rfl, (blk_cell a0.out 1).trans rfl, (blk_cell a0.out 2).trans rfl, (blk_cell a0.out 3).trans rfl, (blk_cell a3.out 0).trans rfl, (blk_cell a3.out 1).trans rfl, (blk_cell a3.out 2).trans rfl, (blk_cell a3.out 3).trans rfl⟩ (fun hHeld => ?_)
                    clear hK K
                    refine norm_ (a' := ?_) ?_ ?_
                    rotate_left
                    ·show Act.put _ (some 5) _ = _
                     simp only [Act.put, List.setIfInBounds_toArray, List.set_cons_zero, List.set_cons_succ, i64_w, i32_w]
                     rfl
                    exact norm_ (by first | (simp only [putAll, Act.put, List.setIfInBounds_toArray, List.set_cons_zero, List.set_cons_succ]; done) | (simp only [putAll, Act.put, List.setIfInBounds_toArray, List.set_cons_zero, List.set_cons_succ]; rfl)) (j1 (a4, a5) _ ⟨hHeld, (by (with_reducible repeat (first | refine bN ?_ _ | refine bD ?_ | refine bA ?_ _)); exact a0.out), (by (with_reducible repeat (first | refine bN ?_ _ | refine bD ?_ | refine bA ?_ _)); exact a3.out), (by (with_reducible repeat (first | refine bN ?_ _ | refine bD ?_ | refine bA ?_ _)); exact a6.out), (by (with_reducible repeat (first | refine bN ?_ _ | refine bD ?_ | refine bA ?_ _)); exact a7.out), d6.out, c3.out, b2.out, c5.out, b3.out, c6.out, c9.out, d0.out, d7.out, c4.out, b4.out, c7.out, b5.out, c8.out, (by repeat (first | (with_reducible first | exact HB.out | apply wA | apply wN | apply wD | refine wS ?_ c0.out | refine wS ?_ c1.out | refine wS ?_ c4.out | refine wS ?_ c3.out) | exact HB.out))⟩)
                 ·skip
                  rintro a4 w80 ⟨hS_, h0_, h1_, h2_, h3_, h4_, h5_, h6_, h7_, h8_, h9_⟩
                  have n0_ : Aside0 (w80.heap[a1]? = some (.cells #[.int .i64 a0_0, .int .i64 a0_1, .int .i64 a0_2, .int .i64 a0_3] 44 (0, 0))) := ⟨h0_⟩
                  have n1_ : Aside0 (w80.heap[a2]? = some (.cells #[.int .i64 a1_0, .int .i64 a1_1, .int .i64 a1_2, .int .i64 a1_3] 44 (0, 0))) := ⟨h1_⟩
                  have n2_ : Aside0 (w80.heap[a4]? = some (.cells #[.int .i64 0, .int .i64 0, .int .i64 0, .int .i64 0] 44 (0, 0))) := ⟨h2_⟩
                  have n3_ : Aside0 (w.heap.size ≤ a4) := ⟨h3_⟩
                  have n4_ : Aside0 (w.heap.size ≤ a4) := ⟨h4_⟩
                  have n5_ : Aside0 (a1 ≠ a4) := ⟨h5_⟩
                  have n6_ : Aside0 (a4 ≠ a1) := ⟨h6_⟩
                  have n7_ : Aside0 (a2 ≠ a4) := ⟨h7_⟩
                  have n8_ : Aside0 (a4 ≠ a2) := ⟨h8_⟩
                  have n9_ : Aside0 (Below w.heap.size w w80) := ⟨h9_⟩
                  clear a0
                  clear a3
                  clear HB
                  clear h0_ h1_ h2_ h3_ h4_ h5_ h6_ h7_ h8_ h9_
                  have a0 := n0_
                  have a3 := n1_
                  have a6 := n2_
                  have d6 := n3_
                  have c3 := n4_
                  have b2 := n5_
                  have c5 := n6_
                  have b3 := n7_
                  have c6 := n8_
                  have HB := n9_
                  clear n0_ n1_ n2_ n3_ n4_ n5_ n6_ n7_ n8_ n9_
                  have hHeld : w80.cell? ⟨a1, 0, none⟩ = some (.int .i64 a0_0) ∧ w80.cell? ⟨a1, 1, none⟩ = some (.int .i64 a0_1) ∧ w80.cell? ⟨a1, 2, none⟩ = some (.int .i64 a0_2) ∧ w80.cell? ⟨a1, 3, none⟩ = some (.int .i64 a0_3) ∧ w80.cell? ⟨a2, 0, none⟩ = some (.int .i64 a1_0) ∧ w80.cell? ⟨a2, 1, none⟩ = some (.int .i64 a1_1) ∧ w80.cell? ⟨a2, 2, none⟩ = some (.int .i64 a1_2) ∧ w80.cell? ⟨a2, 3, none⟩ = some (.int .i64 a1_3) := hS_
                  refine norm_ (a' := ?_) ?_ ?_
                  rotate_left
                  ·simp only [putAll, Act.put, List.setIfInBounds_toArray, List.set_cons_zero, List.set_cons_succ]
                   rfl
                  refine two_ (i := 3) (j := 5) (Ni := some 22) (Nj := some 6) #[true, true, true, true, true, false, false, false] #[true, true, true, false, true, true, false, false] rfl rfl rfl rfl (two_of HT_.out (by kernel_rfl)) (by decide) (by decide) (fun K hK => ?_) (fun K hK => ?_)
                  ·skip
                   refine goes_ Tryd.func21 (by kernel_rfl) rfl #[.agg #[.int .i64 a1_0, .int .i64 a1_1, .int .i64 a1_2, .int .i64 a1_3]] (by rfl) rfl rfl (by (try simp only [List.map_toArray, List.map_cons, List.map_nil]); first | done | rfl | (simp only [List.length_drop, List.length_take]; rfl)) ?_
                   with_reducible refine (laws_rgFull.calls k a1_0 a1_1 a1_2 a1_3 b6 b7 b8 b9 _ A4.out).mono ?_
                   rintro e w81 ⟨rfl, hb⟩
                   refine ⟨_, rfl, ?_⟩
                   have n0_ := aM (bB (g := a1) (o := .cells #[.int .i64 a0_0, .int .i64 a0_1, .int .i64 a0_2, .int .i64 a0_3] 44 (0, 0)) (by (with_reducible repeat (first | refine bN ?_ _ | refine bD ?_ | refine bA ?_ _)); exact a0.out) hb)
                   have n1_ := aM (bB (g := a2) (o := .cells #[.int .i64 a1_0, .int .i64 a1_1, .int .i64 a1_2, .int .i64 a1_3] 44 (0, 0)) (by (with_reducible repeat (first | refine bN ?_ _ | refine bD ?_ | refine bA ?_ _)); exact a3.out) hb)
                   have n2_ := aM (bB (g := a4) (o := .cells #[.int .i64 0, .int .i64 0, .int .i64 0, .int .i64 0] 44 (0, 0)) (by (with_reducible repeat (first | refine bN ?_ _ | refine bD ?_ | refine bA ?_ _)); exact a6.out) hb)
                   have n3_ := aM (wP (by repeat (first | (with_reducible first | exact HB.out | apply wA | apply wN | apply wD | refine wS ?_ c0.out | refine wS ?_ c1.out | refine wS ?_ c3.out) | exact HB.out)) hb)
                   clear a0
                   clear a3
                   clear a6
                   clear HB
                   have a0 := n0_
                   have a3 := n1_
                   have a6 := n2_
                   have HB := n3_
                   clear n0_ n1_ n2_ n3_
                   (try clear hb)
                   (try clear hb2)
                   (try clear hk)
                   (try clear hi)
                   refine hK.out _ _ ⟨(blk_cell a0.out 0).trans rfl, (blk_cell a0.out 1).trans rfl, (blk_cell a0.out 2).trans rfl, (blk_cell a0.out 3).trans rfl, (blk_cell a3.out 0).trans rfl, (blk_cell a3.out 1).trans rfl, (blk_cell a3.out 2).trans rfl, (blk_cell a3.out 3).trans rfl⟩ (fun hHeld => ?_)
                   clear hK K
                   refine norm_ (a' := ?_) ?_ ?_
                   rotate_left
                   ·show Act.put _ (some 22) _ = _
                    simp only [Act.put, List.setIfInBounds_toArray, List.set_cons_zero, List.set_cons_succ, i64_w, i32_w]
                    rfl
                   exact norm_ (by first | (simp only [putAll, Act.put, List.setIfInBounds_toArray, List.set_cons_zero, List.set_cons_succ]; done) | (simp only [putAll, Act.put, List.setIfInBounds_toArray, List.set_cons_zero, List.set_cons_succ]; rfl)) (j2 (a4) _ ⟨hHeld, (by (with_reducible repeat (first | refine bN ?_ _ | refine bD ?_ | refine bA ?_ _)); exact a0.out), (by (with_reducible repeat (first | refine bN ?_ _ | refine bD ?_ | refine bA ?_ _)); exact a3.out), (by (with_reducible repeat (first | refine bN ?_ _ | refine bD ?_ | refine bA ?_ _)); exact a6.out), d6.out, c3.out, b2.out, c5.out, b3.out, c6.out, (by repeat (first | (with_reducible first | exact HB.out | apply wA | apply wN | apply wD | refine wS ?_ c0.out | refine wS ?_ c1.out | refine wS ?_ c3.out) | exact HB.out))⟩)
                  ·skip
                   refine box_step ?hg (N := 6) ?hd (cs := #[.int .i64 0, .int .i64 0, .int .i64 0, .int .i64 0]) (t := 44) ?hr ?_; (case hd => rfl); (case hg => rfl); (case hr => first | (go_simp; done) | (go_simp; rfl))
                   intro a5 hg w81 hbox hb
                   have n0_ := aM (bB (g := a1) (o := .cells #[.int .i64 a0_0, .int .i64 a0_1, .int .i64 a0_2, .int .i64 a0_3] 44 (0, 0)) (by (with_reducible repeat (first | refine bN ?_ _ | refine bD ?_ | refine bA ?_ _)); exact a0.out) hb)
                   have n1_ := aM (bB (g := a2) (o := .cells #[.int .i64 a1_0, .int .i64 a1_1, .int .i64 a1_2, .int .i64 a1_3] 44 (0, 0)) (by (with_reducible repeat (first | refine bN ?_ _ | refine bD ?_ | refine bA ?_ _)); exact a3.out) hb)
                   have n2_ := aM (bB (g := a4) (o := .cells #[.int .i64 0, .int .i64 0, .int .i64 0, .int .i64 0] 44 (0, 0)) (by (with_reducible repeat (first | refine bN ?_ _ | refine bD ?_ | refine bA ?_ _)); exact a6.out) hb)
                   have n3_ := aM (wP (by repeat (first | (with_reducible first | exact HB.out | apply wA | apply wN | apply wD | refine wS ?_ c0.out | refine wS ?_ c1.out | refine wS ?_ c3.out) | exact HB.out)) hb)
                   have n4_ := aM (hbox)
                   have n5_ := aM ((by rw [hg]; exact (below_size (by repeat (first | (with_reducible first | exact HB.out | apply wA | apply wN | apply wD | refine wS ?_ c0.out | refine wS ?_ c1.out | refine wS ?_ c3.out) | exact HB.out))) : w.heap.size ≤ a5))
                   have n6_ := aM ((by rw [hg]; exact (below_size (by repeat (first | (with_reducible first | exact HB.out | apply wA | apply wN | apply wD | refine wS ?_ c0.out | refine wS ?_ c1.out | refine wS ?_ c3.out) | exact HB.out))) : w.heap.size ≤ a5))
                   have n7_ := aM ((by rw [hg]; exact Nat.ne_of_lt (bL (g := a1) (o := .cells #[.int .i64 a0_0, .int .i64 a0_1, .int .i64 a0_2, .int .i64 a0_3] 44 (0, 0)) (by (with_reducible repeat (first | refine bN ?_ _ | refine bD ?_ | refine bA ?_ _)); exact a0.out)) : a1 ≠ a5))
                   have n8_ := aM ((by rw [hg]; exact Nat.ne_of_gt (bL (g := a1) (o := .cells #[.int .i64 a0_0, .int .i64 a0_1, .int .i64 a0_2, .int .i64 a0_3] 44 (0, 0)) (by (with_reducible repeat (first | refine bN ?_ _ | refine bD ?_ | refine bA ?_ _)); exact a0.out)) : a5 ≠ a1))
                   have n9_ := aM ((by rw [hg]; exact Nat.ne_of_lt (bL (g := a2) (o := .cells #[.int .i64 a1_0, .int .i64 a1_1, .int .i64 a1_2, .int .i64 a1_3] 44 (0, 0)) (by (with_reducible repeat (first | refine bN ?_ _ | refine bD ?_ | refine bA ?_ _)); exact a3.out)) : a2 ≠ a5))
                   have d9 := aM ((by rw [hg]; exact Nat.ne_of_gt (bL (g := a2) (o := .cells #[.int .i64 a1_0, .int .i64 a1_1, .int .i64 a1_2, .int .i64 a1_3] 44 (0, 0)) (by (with_reducible repeat (first | refine bN ?_ _ | refine bD ?_ | refine bA ?_ _)); exact a3.out)) : a5 ≠ a2))
                   have e0 := aM ((by rw [hg]; exact Nat.ne_of_lt (bL (g := a4) (o := .cells #[.int .i64 0, .int .i64 0, .int .i64 0, .int .i64 0] 44 (0, 0)) (by (with_reducible repeat (first | refine bN ?_ _ | refine bD ?_ | refine bA ?_ _)); exact a6.out)) : a4 ≠ a5))
                   have e1 := aM ((by rw [hg]; exact Nat.ne_of_gt (bL (g := a4) (o := .cells #[.int .i64 0, .int .i64 0, .int .i64 0, .int .i64 0] 44 (0, 0)) (by (with_reducible repeat (first | refine bN ?_ _ | refine bD ?_ | refine bA ?_ _)); exact a6.out)) : a5 ≠ a4))
                   clear a0
                   clear a3
                   clear a6
                   clear HB
                   have a0 := n0_
                   have a3 := n1_
                   have a6 := n2_
                   have HB := n3_
                   have a7 := n4_
                   have d7 := n5_
                   have c4 := n6_
                   have b4 := n7_
                   have c7 := n8_
                   have b5 := n9_
                   have c8 := d9
                   have d0 := e0
                   have c9 := e1
                   clear n0_ n1_ n2_ n3_ n4_ n5_ n6_ n7_ n8_ n9_ d9 e0 e1
                   clear hb hbox hg
                   refine hK.out _ _ ⟨(blk_cell a0.out 0).trans rfl, (blk_cell a0.out 1).trans rfl, (blk_cell a0.out 2).trans rfl, (blk_cell a0.out 3).trans rfl, (blk_cell a3.out 0).trans rfl, (blk_cell a3.out 1).trans rfl, (blk_cell a3.out 2).trans rfl, (blk_cell a3.out 3).trans rfl⟩ (fun hHeld => ?_)
                   clear hK K
                   refine norm_ (a' := ?_) ?_ ?_
                   rotate_left
                   ·show Act.put _ (some 6) _ = _
                    simp only [Act.put, List.setIfInBounds_toArray, List.set_cons_zero, List.set_cons_succ, i64_w, i32_w]
                    rfl
                   exact norm_ (by first | (simp only [putAll, Act.put, List.setIfInBounds_toArray, List.set_cons_zero, List.set_cons_succ]; done) | (simp only [putAll, Act.put, List.setIfInBounds_toArray, List.set_cons_zero, List.set_cons_succ]; rfl)) (j1 (a4, a5) _ ⟨hHeld, (by (with_reducible repeat (first | refine bN ?_ _ | refine bD ?_ | refine bA ?_ _)); exact a0.out), (by (with_reducible repeat (first | refine bN ?_ _ | refine bD ?_ | refine bA ?_ _)); exact a3.out), (by (with_reducible repeat (first | refine bN ?_ _ | refine bD ?_ | refine bA ?_ _)); exact a6.out), (by (with_reducible repeat (first | refine bN ?_ _ | refine bD ?_ | refine bA ?_ _)); exact a7.out), d6.out, c3.out, b2.out, c5.out, b3.out, c6.out, c9.out, d0.out, d7.out, c4.out, b4.out, c7.out, b5.out, c8.out, (by repeat (first | (with_reducible first | exact HB.out | apply wA | apply wN | apply wD | refine wS ?_ c0.out | refine wS ?_ c1.out | refine wS ?_ c3.out | refine wS ?_ c4.out) | exact HB.out))⟩)
                ·skip
                 rintro _ w80 ⟨hS_, h0_, h1_, h2_⟩
                 have n0_ : Aside0 (w80.heap[a1]? = some (.cells #[.int .i64 a0_0, .int .i64 a0_1, .int .i64 a0_2, .int .i64 a0_3] 44 (0, 0))) := ⟨h0_⟩
                 have n1_ : Aside0 (w80.heap[a2]? = some (.cells #[.int .i64 a1_0, .int .i64 a1_1, .int .i64 a1_2, .int .i64 a1_3] 44 (0, 0))) := ⟨h1_⟩
                 have n2_ : Aside0 (Below w.heap.size w w80) := ⟨h2_⟩
                 clear a0
                 clear a3
                 clear HB
                 clear h0_ h1_ h2_
                 have a0 := n0_
                 have a3 := n1_
                 have HB := n2_
                 clear n0_ n1_ n2_
                 have hHeld : w80.cell? ⟨a1, 0, none⟩ = some (.int .i64 a0_0) ∧ w80.cell? ⟨a1, 1, none⟩ = some (.int .i64 a0_1) ∧ w80.cell? ⟨a1, 2, none⟩ = some (.int .i64 a0_2) ∧ w80.cell? ⟨a1, 3, none⟩ = some (.int .i64 a0_3) ∧ w80.cell? ⟨a2, 0, none⟩ = some (.int .i64 a1_0) ∧ w80.cell? ⟨a2, 1, none⟩ = some (.int .i64 a1_1) ∧ w80.cell? ⟨a2, 2, none⟩ = some (.int .i64 a1_2) ∧ w80.cell? ⟨a2, 3, none⟩ = some (.int .i64 a1_3) := hS_
                 refine norm_ (a' := ?_) ?_ ?_
                 rotate_left
                 ·simp only [putAll, Act.put, List.setIfInBounds_toArray, List.set_cons_zero, List.set_cons_succ]
                  rfl
                 refine two_ (i := 4) (j := 5) (Ni := some 5) (Nj := some 6) #[true, true, true, true, true, false, false, false] #[true, true, true, true, false, true, false, false] rfl rfl rfl rfl (two_of HT_.out (by kernel_rfl)) (by decide) (by decide) (fun K hK => ?_) (fun K hK => ?_)
                 ·skip
                  refine box_step ?hg (N := 5) ?hd (cs := #[.int .i64 0, .int .i64 0, .int .i64 0, .int .i64 0]) (t := 44) ?hr ?_; (case hd => rfl); (case hg => rfl); (case hr => first | (go_simp; done) | (go_simp; rfl))
                  intro a4 hg w81 hbox hb
                  have n0_ := aM (bB (g := a1) (o := .cells #[.int .i64 a0_0, .int .i64 a0_1, .int .i64 a0_2, .int .i64 a0_3] 44 (0, 0)) (by (with_reducible repeat (first | refine bN ?_ _ | refine bD ?_ | refine bA ?_ _)); exact a0.out) hb)
                  have n1_ := aM (bB (g := a2) (o := .cells #[.int .i64 a1_0, .int .i64 a1_1, .int .i64 a1_2, .int .i64 a1_3] 44 (0, 0)) (by (with_reducible repeat (first | refine bN ?_ _ | refine bD ?_ | refine bA ?_ _)); exact a3.out) hb)
                  have n2_ := aM (wP (by repeat (first | (with_reducible first | exact HB.out | apply wA | apply wN | apply wD | refine wS ?_ c0.out | refine wS ?_ c1.out) | exact HB.out)) hb)
                  have n3_ := aM (hbox)
                  have n4_ := aM ((by rw [hg]; exact (below_size (by repeat (first | (with_reducible first | exact HB.out | apply wA | apply wN | apply wD | refine wS ?_ c0.out | refine wS ?_ c1.out) | exact HB.out))) : w.heap.size ≤ a4))
                  have n5_ := aM ((by rw [hg]; exact (below_size (by repeat (first | (with_reducible first | exact HB.out | apply wA | apply wN | apply wD | refine wS ?_ c0.out | refine wS ?_ c1.out) | exact HB.out))) : w.heap.size ≤ a4))
                  have n6_ := aM ((by rw [hg]; exact Nat.ne_of_lt (bL (g := a1) (o := .cells #[.int .i64 a0_0, .int .i64 a0_1, .int .i64 a0_2, .int .i64 a0_3] 44 (0, 0)) (by (with_reducible repeat (first | refine bN ?_ _ | refine bD ?_ | refine bA ?_ _)); exact a0.out)) : a1 ≠ a4))
                  have n7_ := aM ((by rw [hg]; exact Nat.ne_of_gt (bL (g := a1) (o := .cells #[.int .i64 a0_0, .int .i64 a0_1, .int .i64 a0_2, .int .i64 a0_3] 44 (0, 0)) (by (with_reducible repeat (first | refine bN ?_ _ | refine bD ?_ | refine bA ?_ _)); exact a0.out)) : a4 ≠ a1))
                  have n8_ := aM ((by rw [hg]; exact Nat.ne_of_lt (bL (g := a2) (o := .cells #[.int .i64 a1_0, .int .i64 a1_1, .int .i64 a1_2, .int .i64 a1_3] 44 (0, 0)) (by (with_reducible repeat (first | refine bN ?_ _ | refine bD ?_ | refine bA ?_ _)); exact a3.out)) : a2 ≠ a4))
                  have n9_ := aM ((by rw [hg]; exact Nat.ne_of_gt (bL (g := a2) (o := .cells #[.int .i64 a1_0, .int .i64 a1_1, .int .i64 a1_2, .int .i64 a1_3] 44 (0, 0)) (by (with_reducible repeat (first | refine bN ?_ _ | refine bD ?_ | refine bA ?_ _)); exact a3.out)) : a4 ≠ a2))
                  clear a0
                  clear a3
                  clear HB
                  have a0 := n0_
                  have a3 := n1_
                  have HB := n2_
                  have a6 := n3_
                  have d6 := n4_
                  have c3 := n5_
                  have b2 := n6_
                  have c5 := n7_
                  have b3 := n8_
                  have c6 := n9_
                  clear n0_ n1_ n2_ n3_ n4_ n5_ n6_ n7_ n8_ n9_
                  clear hb hbox hg
                  refine hK.out _ _ ⟨(blk_cell a0.out 0).trans rfl, (blk_cell a0.out 1).trans rfl, (blk_cell a0.out 2).trans rfl, (blk_cell a0.out 3).trans rfl, (blk_cell a3.out 0).trans rfl, (blk_cell a3.out 1).trans rfl, (blk_cell a3.out 2).trans rfl, (blk_cell a3.out 3).trans rfl⟩ (fun hHeld => ?_)
                  clear hK K
                  refine norm_ (a' := ?_) ?_ ?_
                  rotate_left
                  ·show Act.put _ (some 5) _ = _
                   simp only [Act.put, List.setIfInBounds_toArray, List.set_cons_zero, List.set_cons_succ, i64_w, i32_w]
                   rfl
                  exact norm_ (by first | (simp only [putAll, Act.put, List.setIfInBounds_toArray, List.set_cons_zero, List.set_cons_succ]; done) | (simp only [putAll, Act.put, List.setIfInBounds_toArray, List.set_cons_zero, List.set_cons_succ]; rfl)) (j2 (a4) _ ⟨hHeld, (by (with_reducible repeat (first | refine bN ?_ _ | refine bD ?_ | refine bA ?_ _)); exact a0.out), (by (with_reducible repeat (first | refine bN ?_ _ | refine bD ?_ | refine bA ?_ _)); exact a3.out), (by (with_reducible repeat (first | refine bN ?_ _ | refine bD ?_ | refine bA ?_ _)); exact a6.out), d6.out, c3.out, b2.out, c5.out, b3.out, c6.out, (by repeat (first | (with_reducible first | exact HB.out | apply wA | apply wN | apply wD | refine wS ?_ c0.out | refine wS ?_ c1.out | refine wS ?_ c3.out) | exact HB.out))⟩)
                 ·skip
                  refine box_step ?hg (N := 6) ?hd (cs := #[.int .i64 0, .int .i64 0, .int .i64 0, .int .i64 0]) (t := 44) ?hr ?_; (case hd => rfl); (case hg => rfl); (case hr => first | (go_simp; done) | (go_simp; rfl))
                  intro a5 hg w81 hbox hb
                  have n0_ := aM (bB (g := a1) (o := .cells #[.int .i64 a0_0, .int .i64 a0_1, .int .i64 a0_2, .int .i64 a0_3] 44 (0, 0)) (by (with_reducible repeat (first | refine bN ?_ _ | refine bD ?_ | refine bA ?_ _)); exact a0.out) hb)
                  have n1_ := aM (bB (g := a2) (o := .cells #[.int .i64 a1_0, .int .i64 a1_1, .int .i64 a1_2, .int .i64 a1_3] 44 (0, 0)) (by (with_reducible repeat (first | refine bN ?_ _ | refine bD ?_ | refine bA ?_ _)); exact a3.out) hb)
                  have n2_ := aM (wP (by repeat (first | (with_reducible first | exact HB.out | apply wA | apply wN | apply wD | refine wS ?_ c0.out | refine wS ?_ c1.out) | exact HB.out)) hb)
                  have n3_ := aM (hbox)
                  have n4_ := aM ((by rw [hg]; exact (below_size (by repeat (first | (with_reducible first | exact HB.out | apply wA | apply wN | apply wD | refine wS ?_ c0.out | refine wS ?_ c1.out) | exact HB.out))) : w.heap.size ≤ a5))
                  have n5_ := aM ((by rw [hg]; exact (below_size (by repeat (first | (with_reducible first | exact HB.out | apply wA | apply wN | apply wD | refine wS ?_ c0.out | refine wS ?_ c1.out) | exact HB.out))) : w.heap.size ≤ a5))
                  have n6_ := aM ((by rw [hg]; exact Nat.ne_of_lt (bL (g := a1) (o := .cells #[.int .i64 a0_0, .int .i64 a0_1, .int .i64 a0_2, .int .i64 a0_3] 44 (0, 0)) (by (with_reducible repeat (first | refine bN ?_ _ | refine bD ?_ | refine bA ?_ _)); exact a0.out)) : a1 ≠ a5))
                  have n7_ := aM ((by rw [hg]; exact Nat.ne_of_gt (bL (g := a1) (o := .cells #[.int .i64 a0_0, .int .i64 a0_1, .int .i64 a0_2, .int .i64 a0_3] 44 (0, 0)) (by (with_reducible repeat (first | refine bN ?_ _ | refine bD ?_ | refine bA ?_ _)); exact a0.out)) : a5 ≠ a1))
                  have n8_ := aM ((by rw [hg]; exact Nat.ne_of_lt (bL (g := a2) (o := .cells #[.int .i64 a1_0, .int .i64 a1_1, .int .i64 a1_2, .int .i64 a1_3] 44 (0, 0)) (by (with_reducible repeat (first | refine bN ?_ _ | refine bD ?_ | refine bA ?_ _)); exact a3.out)) : a2 ≠ a5))
                  have n9_ := aM ((by rw [hg]; exact Nat.ne_of_gt (bL (g := a2) (o := .cells #[.int .i64 a1_0, .int .i64 a1_1, .int .i64 a1_2, .int .i64 a1_3] 44 (0, 0)) (by (with_reducible repeat (first | refine bN ?_ _ | refine bD ?_ | refine bA ?_ _)); exact a3.out)) : a5 ≠ a2))
                  clear a0
                  clear a3
                  clear HB
                  have a0 := n0_
                  have a3 := n1_
                  have HB := n2_
                  have a7 := n3_
                  have d7 := n4_
                  have c4 := n5_
                  have b4 := n6_
                  have c7 := n7_
                  have b5 := n8_
                  have c8 := n9_
                  clear n0_ n1_ n2_ n3_ n4_ n5_ n6_ n7_ n8_ n9_
                  clear hb hbox hg
                  refine hK.out _ _ ⟨(blk_cell a0.out 0).trans rfl, (blk_cell a0.out 1).trans rfl, (blk_cell a0.out 2).trans rfl, (blk_cell a0.out 3).trans rfl, (blk_cell a3.out 0).trans rfl, (blk_cell a3.out 1).trans rfl, (blk_cell a3.out 2).trans rfl, (blk_cell a3.out 3).trans rfl⟩ (fun hHeld => ?_)
                  clear hK K
                  refine norm_ (a' := ?_) ?_ ?_
                  rotate_left
                  ·show Act.put _ (some 6) _ = _
                   simp only [Act.put, List.setIfInBounds_toArray, List.set_cons_zero, List.set_cons_succ, i64_w, i32_w]
                   rfl
                  exact norm_ (by first | (simp only [putAll, Act.put, List.setIfInBounds_toArray, List.set_cons_zero, List.set_cons_succ]; done) | (simp only [putAll, Act.put, List.setIfInBounds_toArray, List.set_cons_zero, List.set_cons_succ]; rfl)) (j3 (a5) _ ⟨hHeld, (by (with_reducible repeat (first | refine bN ?_ _ | refine bD ?_ | refine bA ?_ _)); exact a0.out), (by (with_reducible repeat (first | refine bN ?_ _ | refine bD ?_ | refine bA ?_ _)); exact a3.out), (by (with_reducible repeat (first | refine bN ?_ _ | refine bD ?_ | refine bA ?_ _)); exact a7.out), d7.out, c4.out, b4.out, c7.out, b5.out, c8.out, (by repeat (first | (with_reducible first | exact HB.out | apply wA | apply wN | apply wD | refine wS ?_ c0.out | refine wS ?_ c1.out | refine wS ?_ c4.out) | exact HB.out))⟩)
               ·skip
                rintro ⟨a4, a5⟩ w81 ⟨hS_, h0_, h1_, h2_, h3_, h4_, h5_, h6_, h7_, h8_, h9_, f4, f5, f6, f7, f8, f9, g0, g1, g2⟩
                have n0_ : Aside0 (w81.heap[a1]? = some (.cells #[.int .i64 a0_0, .int .i64 a0_1, .int .i64 a0_2, .int .i64 a0_3] 44 (0, 0))) := ⟨h0_⟩
                have n1_ : Aside0 (w81.heap[a2]? = some (.cells #[.int .i64 a1_0, .int .i64 a1_1, .int .i64 a1_2, .int .i64 a1_3] 44 (0, 0))) := ⟨h1_⟩
                have n2_ : Aside0 (w81.heap[a4]? = some (.cells #[.int .i64 0, .int .i64 0, .int .i64 0, .int .i64 0] 44 (0, 0))) := ⟨h2_⟩
                have n3_ : Aside0 (w81.heap[a5]? = some (.cells #[.int .i64 0, .int .i64 0, .int .i64 0, .int .i64 0] 44 (0, 0))) := ⟨h3_⟩
                have n4_ : Aside0 (w.heap.size ≤ a4) := ⟨h4_⟩
                have n5_ : Aside0 (w.heap.size ≤ a4) := ⟨h5_⟩
                have n6_ : Aside0 (a1 ≠ a4) := ⟨h6_⟩
                have n7_ : Aside0 (a4 ≠ a1) := ⟨h7_⟩
                have n8_ : Aside0 (a2 ≠ a4) := ⟨h8_⟩
                have n9_ : Aside0 (a4 ≠ a2) := ⟨h9_⟩
                have d9 : Aside0 (a5 ≠ a4) := ⟨f4⟩
                have e0 : Aside0 (a4 ≠ a5) := ⟨f5⟩
                have e1 : Aside0 (w.heap.size ≤ a5) := ⟨f6⟩
                have g3 : Aside0 (w.heap.size ≤ a5) := ⟨f7⟩
                have g4 : Aside0 (a1 ≠ a5) := ⟨f8⟩
                have g5 : Aside0 (a5 ≠ a1) := ⟨f9⟩
                have g6 : Aside0 (a2 ≠ a5) := ⟨g0⟩
                have g7 : Aside0 (a5 ≠ a2) := ⟨g1⟩
                have g8 : Aside0 (Below w.heap.size w w81) := ⟨g2⟩
                clear a0
                clear a3
                clear HB
                clear h0_ h1_ h2_ h3_ h4_ h5_ h6_ h7_ h8_ h9_ f4 f5 f6 f7 f8 f9 g0 g1 g2
                have a0 := n0_
                have a3 := n1_
                have a6 := n2_
                have a7 := n3_
                have d6 := n4_
                have c3 := n5_
                have b2 := n6_
                have c5 := n7_
                have b3 := n8_
                have c6 := n9_
                have c9 := d9
                have d0 := e0
                have d7 := e1
                have c4 := g3
                have b4 := g4
                have c7 := g5
                have b5 := g6
                have c8 := g7
                have HB := g8
                clear n0_ n1_ n2_ n3_ n4_ n5_ n6_ n7_ n8_ n9_ d9 e0 e1 g3 g4 g5 g6 g7 g8
                have hHeld : w81.cell? ⟨a1, 0, none⟩ = some (.int .i64 a0_0) ∧ w81.cell? ⟨a1, 1, none⟩ = some (.int .i64 a0_1) ∧ w81.cell? ⟨a1, 2, none⟩ = some (.int .i64 a0_2) ∧ w81.cell? ⟨a1, 3, none⟩ = some (.int .i64 a0_3) ∧ w81.cell? ⟨a2, 0, none⟩ = some (.int .i64 a1_0) ∧ w81.cell? ⟨a2, 1, none⟩ = some (.int .i64 a1_1) ∧ w81.cell? ⟨a2, 2, none⟩ = some (.int .i64 a1_2) ∧ w81.cell? ⟨a2, 3, none⟩ = some (.int .i64 a1_3) := hS_
                refine norm_ (a' := ?_) ?_ ?_
                rotate_left
                ·simp only [putAll, Act.put, List.setIfInBounds_toArray, List.set_cons_zero, List.set_cons_succ]
                 rfl
                refine one_ (i := 3) (N := some 22) #[true, true, true, true, true, true, false, false] rfl rfl (one_of HT_.out (by kernel_rfl)) (by decide) (fun K hK => ?_)
                refine goes_ Tryd.func21 (by kernel_rfl) rfl #[.agg #[.int .i64 a1_0, .int .i64 a1_1, .int .i64 a1_2, .int .i64 a1_3]] (by rfl) rfl rfl (by (try simp only [List.map_toArray, List.map_cons, List.map_nil]); first | done | rfl | (simp only [List.length_drop, List.length_take]; rfl)) ?_
                with_reducible refine (laws_rgFull.calls k a1_0 a1_1 a1_2 a1_3 b6 b7 b8 b9 _ A4.out).mono ?_
                rintro e w82 ⟨rfl, hb⟩
                refine ⟨_, rfl, ?_⟩
                have n0_ := aM (bB (g := a1) (o := .cells #[.int .i64 a0_0, .int .i64 a0_1, .int .i64 a0_2, .int .i64 a0_3] 44 (0, 0)) (by (with_reducible repeat (first | refine bN ?_ _ | refine bD ?_ | refine bA ?_ _)); exact a0.out) hb)
                have n1_ := aM (bB (g := a2) (o := .cells #[.int .i64 a1_0, .int .i64 a1_1, .int .i64 a1_2, .int .i64 a1_3] 44 (0, 0)) (by (with_reducible repeat (first | refine bN ?_ _ | refine bD ?_ | refine bA ?_ _)); exact a3.out) hb)
                have n2_ := aM (bB (g := a4) (o := .cells #[.int .i64 0, .int .i64 0, .int .i64 0, .int .i64 0] 44 (0, 0)) (by (with_reducible repeat (first | refine bN ?_ _ | refine bD ?_ | refine bA ?_ _)); exact a6.out) hb)
                have n3_ := aM (bB (g := a5) (o := .cells #[.int .i64 0, .int .i64 0, .int .i64 0, .int .i64 0] 44 (0, 0)) (by (with_reducible repeat (first | refine bN ?_ _ | refine bD ?_ | refine bA ?_ _)); exact a7.out) hb)
                have n4_ := aM (wP (by repeat (first | (with_reducible first | exact HB.out | apply wA | apply wN | apply wD | refine wS ?_ c0.out | refine wS ?_ c1.out | refine wS ?_ c3.out | refine wS ?_ c4.out) | exact HB.out)) hb)
                clear a0
                clear a3
                clear a6
                clear a7
                clear HB
                have a0 := n0_
                have a3 := n1_
                have a6 := n2_
                have a7 := n3_
                have HB := n4_
                clear n0_ n1_ n2_ n3_ n4_
                (try clear hb)
                (try clear hb2)
                (try clear hk)
                (try clear hi)
                refine hK.out _ _ ⟨(blk_cell a0.out 0).trans rfl, (blk_cell a0.out 1).trans rfl, (blk_cell a0.out 2).trans rfl, (blk_cell a0.out 3).trans rfl, (blk_cell a3.out 0).trans rfl, (blk_cell a3.out 1).trans rfl, (blk_cell a3.out 2).trans rfl, (blk_cell a3.out 3).trans rfl⟩ (fun hHeld => ?_)
                clear hK K
                refine norm_ (a' := ?_) ?_ ?_
                rotate_left
                ·show Act.put _ (some 22) _ = _
                 simp only [Act.put, List.setIfInBounds_toArray, List.set_cons_zero, List.set_cons_succ, i64_w, i32_w]
                 rfl
                exact norm_ (by first | (simp only [putAll, Act.put, List.setIfInBounds_toArray, List.set_cons_zero, List.set_cons_succ]; done) | (simp only [putAll, Act.put, List.setIfInBounds_toArray, List.set_cons_zero, List.set_cons_succ]; rfl)) (f3 (a4, a5) _ ⟨hHeld, (by (with_reducible repeat (first | refine bN ?_ _ | refine bD ?_ | refine bA ?_ _)); exact a0.out), (by (with_reducible repeat (first | refine bN ?_ _ | refine bD ?_ | refine bA ?_ _)); exact a3.out), (by (with_reducible repeat (first | refine bN ?_ _ | refine bD ?_ | refine bA ?_ _)); exact a6.out), (by (with_reducible repeat (first | refine bN ?_ _ | refine bD ?_ | refine bA ?_ _)); exact a7.out), d6.out, c3.out, b2.out, c5.out, b3.out, c6.out, c9.out, d0.out, d7.out, c4.out, b4.out, c7.out, b5.out, c8.out, (by repeat (first | (with_reducible first | exact HB.out | apply wA | apply wN | apply wD | refine wS ?_ c0.out | refine wS ?_ c1.out | refine wS ?_ c3.out | refine wS ?_ c4.out) | exact HB.out))⟩)
              ·skip
               rintro a5 w81 ⟨hS_, h0_, h1_, h2_, h3_, h4_, h5_, h6_, h7_, h8_, h9_⟩
               have n0_ : Aside0 (w81.heap[a1]? = some (.cells #[.int .i64 a0_0, .int .i64 a0_1, .int .i64 a0_2, .int .i64 a0_3] 44 (0, 0))) := ⟨h0_⟩
               have n1_ : Aside0 (w81.heap[a2]? = some (.cells #[.int .i64 a1_0, .int .i64 a1_1, .int .i64 a1_2, .int .i64 a1_3] 44 (0, 0))) := ⟨h1_⟩
               have n2_ : Aside0 (w81.heap[a5]? = some (.cells #[.int .i64 0, .int .i64 0, .int .i64 0, .int .i64 0] 44 (0, 0))) := ⟨h2_⟩
               have n3_ : Aside0 (w.heap.size ≤ a5) := ⟨h3_⟩
               have n4_ : Aside0 (w.heap.size ≤ a5) := ⟨h4_⟩
               have n5_ : Aside0 (a1 ≠ a5) := ⟨h5_⟩
               have n6_ : Aside0 (a5 ≠ a1) := ⟨h6_⟩
               have n7_ : Aside0 (a2 ≠ a5) := ⟨h7_⟩
               have n8_ : Aside0 (a5 ≠ a2) := ⟨h8_⟩
               have n9_ : Aside0 (Below w.heap.size w w81) := ⟨h9_⟩
               clear a0
               clear a3
               clear HB
               clear h0_ h1_ h2_ h3_ h4_ h5_ h6_ h7_ h8_ h9_
               have a0 := n0_
               have a3 := n1_
               have a7 := n2_
               have d7 := n3_
               have c4 := n4_
               have b4 := n5_
               have c7 := n6_
               have b5 := n7_
               have c8 := n8_
               have HB := n9_
               clear n0_ n1_ n2_ n3_ n4_ n5_ n6_ n7_ n8_ n9_
               have hHeld : w81.cell? ⟨a1, 0, none⟩ = some (.int .i64 a0_0) ∧ w81.cell? ⟨a1, 1, none⟩ = some (.int .i64 a0_1) ∧ w81.cell? ⟨a1, 2, none⟩ = some (.int .i64 a0_2) ∧ w81.cell? ⟨a1, 3, none⟩ = some (.int .i64 a0_3) ∧ w81.cell? ⟨a2, 0, none⟩ = some (.int .i64 a1_0) ∧ w81.cell? ⟨a2, 1, none⟩ = some (.int .i64 a1_1) ∧ w81.cell? ⟨a2, 2, none⟩ = some (.int .i64 a1_2) ∧ w81.cell? ⟨a2, 3, none⟩ = some (.int .i64 a1_3) := hS_
               refine norm_ (a' := ?_) ?_ ?_
               rotate_left
               ·simp only [putAll, Act.put, List.setIfInBounds_toArray, List.set_cons_zero, List.set_cons_succ]
                rfl
               refine one_ (i := 4) (N := some 5) #[true, true, true, true, true, true, false, false] rfl rfl (one_of HT_.out (by kernel_rfl)) (by decide) (fun K hK => ?_)
               refine box_step ?hg (N := 5) ?hd (cs := #[.int .i64 0, .int .i64 0, .int .i64 0, .int .i64 0]) (t := 44) ?hr ?_; (case hd => rfl); (case hg => rfl); (case hr => first | (go_simp; done) | (go_simp; rfl))
               intro a4 hg w82 hbox hb
               have n0_ := aM (bB (g := a1) (o := .cells #[.int .i64 a0_0, .int .i64 a0_1, .int .i64 a0_2, .int .i64 a0_3] 44 (0, 0)) (by (with_reducible repeat (first | refine bN ?_ _ | refine bD ?_ | refine bA ?_ _)); exact a0.out) hb)
               have n1_ := aM (bB (g := a2) (o := .cells #[.int .i64 a1_0, .int .i64 a1_1, .int .i64 a1_2, .int .i64 a1_3] 44 (0, 0)) (by (with_reducible repeat (first | refine bN ?_ _ | refine bD ?_ | refine bA ?_ _)); exact a3.out) hb)
               have n2_ := aM (bB (g := a5) (o := .cells #[.int .i64 0, .int .i64 0, .int .i64 0, .int .i64 0] 44 (0, 0)) (by (with_reducible repeat (first | refine bN ?_ _ | refine bD ?_ | refine bA ?_ _)); exact a7.out) hb)
               have n3_ := aM (wP (by repeat (first | (with_reducible first | exact HB.out | apply wA | apply wN | apply wD | refine wS ?_ c0.out | refine wS ?_ c1.out | refine wS ?_ c4.out) | exact HB.out)) hb)
               have n4_ := aM (hbox)
               have n5_ := aM ((by rw [hg]; exact (below_size (by repeat (first | (with_reducible first | exact HB.out | apply wA | apply wN | apply wD | refine wS ?_ c0.out | refine wS ?_ c1.out | refine wS ?_ c4.out) | exact HB.out))) : w.heap.size ≤ a4))
               have n6_ := aM ((by rw [hg]; exact (below_size (by repeat (first | (with_reducible first | exact HB.out | apply wA | apply wN | apply wD | refine wS ?_ c0.out | refine wS ?_ c1.out | refine wS ?_ c4.out) | exact HB.out))) : w.heap.size ≤ a4))
               have n7_ := aM ((by rw [hg]; exact Nat.ne_of_lt (bL (g := a1) (o := .cells #[.int .i64 a0_0, .int .i64 a0_1, .int .i64 a0_2, .int .i64 a0_3] 44 (0, 0)) (by (with_reducible repeat (first | refine bN ?_ _ | refine bD ?_ | refine bA ?_ _)); exact a0.out)) : a1 ≠ a4))
               have n8_ := aM ((by rw [hg]; exact Nat.ne_of_gt (bL (g := a1) (o := .cells #[.int .i64 a0_0, .int .i64 a0_1, .int .i64 a0_2, .int .i64 a0_3] 44 (0, 0)) (by (with_reducible repeat (first | refine bN ?_ _ | refine bD ?_ | refine bA ?_ _)); exact a0.out)) : a4 ≠ a1))
               have n9_ := aM ((by rw [hg]; exact Nat.ne_of_lt (bL (g := a2) (o := .cells #[.int .i64 a1_0, .int .i64 a1_1, .int .i64 a1_2, .int .i64 a1_3] 44 (0, 0)) (by (with_reducible repeat (first | refine bN ?_ _ | refine bD ?_ | refine bA ?_ _)); exact a3.out)) : a2 ≠ a4))
               have d9 := aM ((by rw [hg]; exact Nat.ne_of_gt (bL (g := a2) (o := .cells #[.int .i64 a1_0, .int .i64 a1_1, .int .i64 a1_2, .int .i64 a1_3] 44 (0, 0)) (by (with_reducible repeat (first | refine bN ?_ _ | refine bD ?_ | refine bA ?_ _)); exact a3.out)) : a4 ≠ a2))
               have e0 := aM ((by rw [hg]; exact Nat.ne_of_lt (bL (g := a5) (o := .cells #[.int .i64 0, .int .i64 0, .int .i64 0, .int .i64 0] 44 (0, 0)) (by (with_reducible repeat (first | refine bN ?_ _ | refine bD ?_ | refine bA ?_ _)); exact a7.out)) : a5 ≠ a4))
               have e1 := aM ((by rw [hg]; exact Nat.ne_of_gt (bL (g := a5) (o := .cells #[.int .i64 0, .int .i64 0, .int .i64 0, .int .i64 0] 44 (0, 0)) (by (with_reducible repeat (first | refine bN ?_ _ | refine bD ?_ | refine bA ?_ _)); exact a7.out)) : a4 ≠ a5))
               clear a0
               clear a3
               clear a7
               clear HB
               have a0 := n0_
               have a3 := n1_
               have a7 := n2_
               have HB := n3_
               have a6 := n4_
               have d6 := n5_
               have c3 := n6_
               have b2 := n7_
               have c5 := n8_
               have b3 := n9_
               have c6 := d9
               have c9 := e0
               have d0 := e1
               clear n0_ n1_ n2_ n3_ n4_ n5_ n6_ n7_ n8_ n9_ d9 e0 e1
               clear hb hbox hg
               refine hK.out _ _ ⟨(blk_cell a0.out 0).trans rfl, (blk_cell a0.out 1).trans rfl, (blk_cell a0.out 2).trans rfl, (blk_cell a0.out 3).trans rfl, (blk_cell a3.out 0).trans rfl, (blk_cell a3.out 1).trans rfl, (blk_cell a3.out 2).trans rfl, (blk_cell a3.out 3).trans rfl⟩ (fun hHeld => ?_)
               clear hK K
               refine norm_ (a' := ?_) ?_ ?_
               rotate_left
               ·show Act.put _ (some 5) _ = _
                simp only [Act.put, List.setIfInBounds_toArray, List.set_cons_zero, List.set_cons_succ, i64_w, i32_w]
                rfl
               exact norm_ (by first | (simp only [putAll, Act.put, List.setIfInBounds_toArray, List.set_cons_zero, List.set_cons_succ]; done) | (simp only [putAll, Act.put, List.setIfInBounds_toArray, List.set_cons_zero, List.set_cons_succ]; rfl)) (f3 (a4, a5) _ ⟨hHeld, (by (with_reducible repeat (first | refine bN ?_ _ | refine bD ?_ | refine bA ?_ _)); exact a0.out), (by (with_reducible repeat (first | refine bN ?_ _ | refine bD ?_ | refine bA ?_ _)); exact a3.out), (by (with_reducible repeat (first | refine bN ?_ _ | refine bD ?_ | refine bA ?_ _)); exact a6.out), (by (with_reducible repeat (first | refine bN ?_ _ | refine bD ?_ | refine bA ?_ _)); exact a7.out), d6.out, c3.out, b2.out, c5.out, b3.out, c6.out, c9.out, d0.out, d7.out, c4.out, b4.out, c7.out, b5.out, c8.out, (by repeat (first | (with_reducible first | exact HB.out | apply wA | apply wN | apply wD | refine wS ?_ c0.out | refine wS ?_ c1.out | refine wS ?_ c4.out | refine wS ?_ c3.out) | exact HB.out))⟩)
             ·skip
              rintro a4 w81 ⟨hS_, h0_, h1_, h2_, h3_, h4_, h5_, h6_, h7_, h8_, h9_⟩
              have n0_ : Aside0 (w81.heap[a1]? = some (.cells #[.int .i64 a0_0, .int .i64 a0_1, .int .i64 a0_2, .int .i64 a0_3] 44 (0, 0))) := ⟨h0_⟩
              have n1_ : Aside0 (w81.heap[a2]? = some (.cells #[.int .i64 a1_0, .int .i64 a1_1, .int .i64 a1_2, .int .i64 a1_3] 44 (0, 0))) := ⟨h1_⟩
              have n2_ : Aside0 (w81.heap[a4]? = some (.cells #[.int .i64 0, .int .i64 0, .int .i64 0, .int .i64 0] 44 (0, 0))) := ⟨h2_⟩
              have n3_ : Aside0 (w.heap.size ≤ a4) := ⟨h3_⟩
              have n4_ : Aside0 (w.heap.size ≤ a4) := ⟨h4_⟩
              have n5_ : Aside0 (a1 ≠ a4) := ⟨h5_⟩
              have n6_ : Aside0 (a4 ≠ a1) := ⟨h6_⟩
              have n7_ : Aside0 (a2 ≠ a4) := ⟨h7_⟩
              have n8_ : Aside0 (a4 ≠ a2) := ⟨h8_⟩
              have n9_ : Aside0 (Below w.heap.size w w81) := ⟨h9_⟩
              clear a0
              clear a3
              clear HB
              clear h0_ h1_ h2_ h3_ h4_ h5_ h6_ h7_ h8_ h9_
              have a0 := n0_
              have a3 := n1_
              have a6 := n2_
              have d6 := n3_
              have c3 := n4_
              have b2 := n5_
              have c5 := n6_
              have b3 := n7_
              have c6 := n8_
              have HB := n9_
              clear n0_ n1_ n2_ n3_ n4_ n5_ n6_ n7_ n8_ n9_
              have hHeld : w81.cell? ⟨a1, 0, none⟩ = some (.int .i64 a0_0) ∧ w81.cell? ⟨a1, 1, none⟩ = some (.int .i64 a0_1) ∧ w81.cell? ⟨a1, 2, none⟩ = some (.int .i64 a0_2) ∧ w81.cell? ⟨a1, 3, none⟩ = some (.int .i64 a0_3) ∧ w81.cell? ⟨a2, 0, none⟩ = some (.int .i64 a1_0) ∧ w81.cell? ⟨a2, 1, none⟩ = some (.int .i64 a1_1) ∧ w81.cell? ⟨a2, 2, none⟩ = some (.int .i64 a1_2) ∧ w81.cell? ⟨a2, 3, none⟩ = some (.int .i64 a1_3) := hS_
              refine norm_ (a' := ?_) ?_ ?_
              rotate_left
              ·simp only [putAll, Act.put, List.setIfInBounds_toArray, List.set_cons_zero, List.set_cons_succ]
               rfl
              refine one_ (i := 5) (N := some 6) #[true, true, true, true, true, true, false, false] rfl rfl (one_of HT_.out (by kernel_rfl)) (by decide) (fun K hK => ?_)
              refine box_step ?hg (N := 6) ?hd (cs := #[.int .i64 0, .int .i64 0, .int .i64 0, .int .i64 0]) (t := 44) ?hr ?_; (case hd => rfl); (case hg => rfl); (case hr => first | (go_simp; done) | (go_simp; rfl))
              intro a5 hg w82 hbox hb
              have n0_ := aM (bB (g := a1) (o := .cells #[.int .i64 a0_0, .int .i64 a0_1, .int .i64 a0_2, .int .i64 a0_3] 44 (0, 0)) (by (with_reducible repeat (first | refine bN ?_ _ | refine bD ?_ | refine bA ?_ _)); exact a0.out) hb)
              have n1_ := aM (bB (g := a2) (o := .cells #[.int .i64 a1_0, .int .i64 a1_1, .int .i64 a1_2, .int .i64 a1_3] 44 (0, 0)) (by (with_reducible repeat (first | refine bN ?_ _ | refine bD ?_ | refine bA ?_ _)); exact a3.out) hb)
              have n2_ := aM (bB (g := a4) (o := .cells #[.int .i64 0, .int .i64 0, .int .i64 0, .int .i64 0] 44 (0, 0)) (by (with_reducible repeat (first | refine bN ?_ _ | refine bD ?_ | refine bA ?_ _)); exact a6.out) hb)
              have n3_ := aM (wP (by repeat (first | (with_reducible first | exact HB.out | apply wA | apply wN | apply wD | refine wS ?_ c0.out | refine wS ?_ c1.out | refine wS ?_ c3.out) | exact HB.out)) hb)
              have n4_ := aM (hbox)
              have n5_ := aM ((by rw [hg]; exact (below_size (by repeat (first | (with_reducible first | exact HB.out | apply wA | apply wN | apply wD | refine wS ?_ c0.out | refine wS ?_ c1.out | refine wS ?_ c3.out) | exact HB.out))) : w.heap.size ≤ a5))
              have n6_ := aM ((by rw [hg]; exact (below_size (by repeat (first | (with_reducible first | exact HB.out | apply wA | apply wN | apply wD | refine wS ?_ c0.out | refine wS ?_ c1.out | refine wS ?_ c3.out) | exact HB.out))) : w.heap.size ≤ a5))
              have n7_ := aM ((by rw [hg]; exact Nat.ne_of_lt (bL (g := a1) (o := .cells #[.int .i64 a0_0, .int .i64 a0_1, .int .i64 a0_2, .int .i64 a0_3] 44 (0, 0)) (by (with_reducible repeat (first | refine bN ?_ _ | refine bD ?_ | refine bA ?_ _)); exact a0.out)) : a1 ≠ a5))
              have n8_ := aM ((by rw [hg]; exact Nat.ne_of_gt (bL (g := a1) (o := .cells #[.int .i64 a0_0, .int .i64 a0_1, .int .i64 a0_2, .int .i64 a0_3] 44 (0, 0)) (by (with_reducible repeat (first | refine bN ?_ _ | refine bD ?_ | refine bA ?_ _)); exact a0.out)) : a5 ≠ a1))
              have n9_ := aM ((by rw [hg]; exact Nat.ne_of_lt (bL (g := a2) (o := .cells #[.int .i64 a1_0, .int .i64 a1_1, .int .i64 a1_2, .int .i64 a1_3] 44 (0, 0)) (by (with_reducible repeat (first | refine bN ?_ _ | refine bD ?_ | refine bA ?_ _)); exact a3.out)) : a2 ≠ a5))
              have d9 := aM ((by rw [hg]; exact Nat.ne_of_gt (bL (g := a2) (o := .cells #[.int .i64 a1_0, .int .i64 a1_1, .int .i64 a1_2, .int .i64 a1_3] 44 (0, 0)) (by (with_reducible repeat (first | refine bN ?_ _ | refine bD ?_ | refine bA ?_ _)); exact a3.out)) : a5 ≠ a2))
              have e0 := aM ((by rw [hg]; exact Nat.ne_of_lt (bL (g := a4) (o := .cells #[.int .i64 0, .int .i64 0, .int .i64 0, .int .i64 0] 44 (0, 0)) (by (with_reducible repeat (first | refine bN ?_ _ | refine bD ?_ | refine bA ?_ _)); exact a6.out)) : a4 ≠ a5))
              have e1 := aM ((by rw [hg]; exact Nat.ne_of_gt (bL (g := a4) (o := .cells #[.int .i64 0, .int .i64 0, .int .i64 0, .int .i64 0] 44 (0, 0)) (by (with_reducible repeat (first | refine bN ?_ _ | refine bD ?_ | refine bA ?_ _)); exact a6.out)) : a5 ≠ a4))
              clear a0
              clear a3
              clear a6
              clear HB
              have a0 := n0_
              have a3 := n1_
              have a6 := n2_
              have HB := n3_
              have a7 := n4_
              have d7 := n5_
              have c4 := n6_
              have b4 := n7_
              have c7 := n8_
              have b5 := n9_
              have c8 := d9
              have d0 := e0
              have c9 := e1
              clear n0_ n1_ n2_ n3_ n4_ n5_ n6_ n7_ n8_ n9_ d9 e0 e1
              clear hb hbox hg
              refine hK.out _ _ ⟨(blk_cell a0.out 0).trans rfl, (blk_cell a0.out 1).trans rfl, (blk_cell a0.out 2).trans rfl, (blk_cell a0.out 3).trans rfl, (blk_cell a3.out 0).trans rfl, (blk_cell a3.out 1).trans rfl, (blk_cell a3.out 2).trans rfl, (blk_cell a3.out 3).trans rfl⟩ (fun hHeld => ?_)
              clear hK K
              refine norm_ (a' := ?_) ?_ ?_
              rotate_left
              ·show Act.put _ (some 6) _ = _
               simp only [Act.put, List.setIfInBounds_toArray, List.set_cons_zero, List.set_cons_succ, i64_w, i32_w]
               rfl
              exact norm_ (by first | (simp only [putAll, Act.put, List.setIfInBounds_toArray, List.set_cons_zero, List.set_cons_succ]; done) | (simp only [putAll, Act.put, List.setIfInBounds_toArray, List.set_cons_zero, List.set_cons_succ]; rfl)) (f3 (a4, a5) _ ⟨hHeld, (by (with_reducible repeat (first | refine bN ?_ _ | refine bD ?_ | refine bA ?_ _)); exact a0.out), (by (with_reducible repeat (first | refine bN ?_ _ | refine bD ?_ | refine bA ?_ _)); exact a3.out), (by (with_reducible repeat (first | refine bN ?_ _ | refine bD ?_ | refine bA ?_ _)); exact a6.out), (by (with_reducible repeat (first | refine bN ?_ _ | refine bD ?_ | refine bA ?_ _)); exact a7.out), d6.out, c3.out, b2.out, c5.out, b3.out, c6.out, c9.out, d0.out, d7.out, c4.out, b4.out, c7.out, b5.out, c8.out, (by repeat (first | (with_reducible first | exact HB.out | apply wA | apply wN | apply wD | refine wS ?_ c0.out | refine wS ?_ c1.out | refine wS ?_ c3.out | refine wS ?_ c4.out) | exact HB.out))⟩)
            rintro ⟨a4, a5⟩ w82 ⟨hS_, h0_, h1_, h2_, h3_, h4_, h5_, h6_, h7_, h8_, h9_, f4, f5, f6, f7, f8, f9, g0, g1, g2⟩
            have n0_ : Aside0 (w82.heap[a1]? = some (.cells #[.int .i64 a0_0, .int .i64 a0_1, .int .i64 a0_2, .int .i64 a0_3] 44 (0, 0))) := ⟨h0_⟩
            have n1_ : Aside0 (w82.heap[a2]? = some (.cells #[.int .i64 a1_0, .int .i64 a1_1, .int .i64 a1_2, .int .i64 a1_3] 44 (0, 0))) := ⟨h1_⟩
            have n2_ : Aside0 (w82.heap[a4]? = some (.cells #[.int .i64 0, .int .i64 0, .int .i64 0, .int .i64 0] 44 (0, 0))) := ⟨h2_⟩
            have n3_ : Aside0 (w82.heap[a5]? = some (.cells #[.int .i64 0, .int .i64 0, .int .i64 0, .int .i64 0] 44 (0, 0))) := ⟨h3_⟩
            have n4_ : Aside0 (w.heap.size ≤ a4) := ⟨h4_⟩
            have n5_ : Aside0 (w.heap.size ≤ a4) := ⟨h5_⟩
            have n6_ : Aside0 (a1 ≠ a4) := ⟨h6_⟩
            have n7_ : Aside0 (a4 ≠ a1) := ⟨h7_⟩
            have n8_ : Aside0 (a2 ≠ a4) := ⟨h8_⟩
            have n9_ : Aside0 (a4 ≠ a2) := ⟨h9_⟩
            have d9 : Aside0 (a5 ≠ a4) := ⟨f4⟩
            have e0 : Aside0 (a4 ≠ a5) := ⟨f5⟩
            have e1 : Aside0 (w.heap.size ≤ a5) := ⟨f6⟩
            have g3 : Aside0 (w.heap.size ≤ a5) := ⟨f7⟩
            have g4 : Aside0 (a1 ≠ a5) := ⟨f8⟩
            have g5 : Aside0 (a5 ≠ a1) := ⟨f9⟩
            have g6 : Aside0 (a2 ≠ a5) := ⟨g0⟩
            have g7 : Aside0 (a5 ≠ a2) := ⟨g1⟩
            have g8 : Aside0 (Below w.heap.size w w82) := ⟨g2⟩
            clear a0
            clear a3
            clear HB
            clear h0_ h1_ h2_ h3_ h4_ h5_ h6_ h7_ h8_ h9_ f4 f5 f6 f7 f8 f9 g0 g1 g2
            have a0 := n0_
            have a3 := n1_
            have a6 := n2_
            have a7 := n3_
            have d6 := n4_
            have c3 := n5_
            have b2 := n6_
            have c5 := n7_
            have b3 := n8_
            have c6 := n9_
            have c9 := d9
            have d0 := e0
            have d7 := e1
            have c4 := g3
            have b4 := g4
            have c7 := g5
            have b5 := g6
            have c8 := g7
            have HB := g8
            clear n0_ n1_ n2_ n3_ n4_ n5_ n6_ n7_ n8_ n9_ d9 e0 e1 g3 g4 g5 g6 g7 g8
            have hHeld : w82.cell? ⟨a1, 0, none⟩ = some (.int .i64 a0_0) ∧ w82.cell? ⟨a1, 1, none⟩ = some (.int .i64 a0_1) ∧ w82.cell? ⟨a1, 2, none⟩ = some (.int .i64 a0_2) ∧ w82.cell? ⟨a1, 3, none⟩ = some (.int .i64 a0_3) ∧ w82.cell? ⟨a2, 0, none⟩ = some (.int .i64 a1_0) ∧ w82.cell? ⟨a2, 1, none⟩ = some (.int .i64 a1_1) ∧ w82.cell? ⟨a2, 2, none⟩ = some (.int .i64 a1_2) ∧ w82.cell? ⟨a2, 3, none⟩ = some (.int .i64 a1_3) := hS_
            refine norm_ (a' := ?_) ?_ ?_
            rotate_left
            ·simp only [putAll, Act.put, List.setIfInBounds_toArray, List.set_cons_zero, List.set_cons_succ]
             rfl
            refine one_ (i := 6) (N := none) #[true, true, true, true, true, true, true, false] rfl rfl (one_of HT_.out (by kernel_rfl)) (by decide) (fun K hK => ?_)
            have N6 : w82.cell? ⟨a4, 0, none⟩ = some (.int .i64 0) := (blk_cell a6.out 0).trans rfl
            have L7 := blk_frozen a6.out 0
            have C2 := b2.out
            have C3 := b3.out
            have C4 := c9.out
            have C5 := c5.out
            have C6 := c6.out
            have C7 := d0.out
            have N7 : w82.cell? ⟨a4, 1, none⟩ = some (.int .i64 0) := (blk_cell a6.out 1).trans rfl
            have L8 := blk_frozen a6.out 1
            have C8 := b2.out
            have C9 := b3.out
            have D0 := c9.out
            have D1 := c5.out
            have D2 := c6.out
            have D3 := d0.out
            have N8 : w82.cell? ⟨a4, 2, none⟩ = some (.int .i64 0) := (blk_cell a6.out 2).trans rfl
            have L9 := blk_frozen a6.out 2
            have D4 := b2.out
            have D5 := b3.out
            have D6 := c9.out
            have D7 := c5.out
            have D8 := c6.out
            have D9 := d0.out
            have N9 : w82.cell? ⟨a4, 3, none⟩ = some (.int .i64 0) := (blk_cell a6.out 3).trans rfl
            have M0 := blk_frozen a6.out 3
            have E0 := b2.out
            have E1 := b3.out
            have E2 := c9.out
            have E3 := c5.out
            have E4 := c6.out
            have E5 := d0.out
            refine skip_ (w1 := ?_) (by rfl) rfl ?_ ?_
            rotate_left
            ·go_simp
             rfl
            refine hK.out _ _ ⟨((cell_far (p := ⟨a4, _, none⟩) b2.out _).trans (((cell_far (p := ⟨a4, _, none⟩) b2.out _).trans (((cell_far (p := ⟨a4, _, none⟩) b2.out _).trans (((cell_far (p := ⟨a4, _, none⟩) b2.out _).trans (hHeld.1)))))))), ((cell_far (p := ⟨a4, _, none⟩) b2.out _).trans (((cell_far (p := ⟨a4, _, none⟩) b2.out _).trans (((cell_far (p := ⟨a4, _, none⟩) b2.out _).trans (((cell_far (p := ⟨a4, _, none⟩) b2.out _).trans (hHeld.2.1)))))))), ((cell_far (p := ⟨a4, _, none⟩) b2.out _).trans (((cell_far (p := ⟨a4, _, none⟩) b2.out _).trans (((cell_far (p := ⟨a4, _, none⟩) b2.out _).trans (((cell_far (p := ⟨a4, _, none⟩) b2.out _).trans (hHeld.2.2.1)))))))), ((cell_far (p := ⟨a4, _, none⟩) b2.out _).trans (((cell_far (p := ⟨a4, _, none⟩) b2.out _).trans (((cell_far (p := ⟨a4, _, none⟩) b2.out _).trans (((cell_far (p := ⟨a4, _, none⟩) b2.out _).trans (hHeld.2.2.2.1)))))))), ((cell_far (p := ⟨a4, _, none⟩) b3.out _).trans (((cell_far (p := ⟨a4, _, none⟩) b3.out _).trans (((cell_far (p := ⟨a4, _, none⟩) b3.out _).trans (((cell_far (p := ⟨a4, _, none⟩) b3.out _).trans (hHeld.2.2.2.2.1)))))))), ((cell_far (p := ⟨a4, _, none⟩) b3.out _).trans (((cell_far (p := ⟨a4, _, none⟩) b3.out _).trans (((cell_far (p := ⟨a4, _, none⟩) b3.out _).trans (((cell_far (p := ⟨a4, _, none⟩) b3.out _).trans (hHeld.2.2.2.2.2.1)))))))), ((cell_far (p := ⟨a4, _, none⟩) b3.out _).trans (((cell_far (p := ⟨a4, _, none⟩) b3.out _).trans (((cell_far (p := ⟨a4, _, none⟩) b3.out _).trans (((cell_far (p := ⟨a4, _, none⟩) b3.out _).trans (hHeld.2.2.2.2.2.2.1)))))))), ((cell_far (p := ⟨a4, _, none⟩) b3.out _).trans (((cell_far (p := ⟨a4, _, none⟩) b3.out _).trans (((cell_far (p := ⟨a4, _, none⟩) b3.out _).trans (((cell_far (p := ⟨a4, _, none⟩) b3.out _).trans (hHeld.2.2.2.2.2.2.2))))))))⟩ (fun hHeld => ?_)
            clear hK K
            refine one_ (i := 7) (N := none) #[true, true, true, true, true, true, true, true] rfl rfl (one_of HT_.out (by kernel_rfl)) (by decide) (fun K hK => ?_)
            have O0 : w82.cell? ⟨a5, 0, none⟩ = some (.int .i64 0) := (blk_cell a7.out 0).trans rfl
            have M1 := blk_frozen a7.out 0
            have E6 := b4.out
            have E7 := b5.out
            have E8 := d0.out
            have E9 := c7.out
            have F0 := c8.out
            have F1 := c9.out
            have O1 : w82.cell? ⟨a5, 1, none⟩ = some (.int .i64 0) := (blk_cell a7.out 1).trans rfl
            have M2 := blk_frozen a7.out 1
            have F2 := b4.out
            have F3 := b5.out
            have F4 := d0.out
            have F5 := c7.out
            have F6 := c8.out
            have F7 := c9.out
            have O2 : w82.cell? ⟨a5, 2, none⟩ = some (.int .i64 0) := (blk_cell a7.out 2).trans rfl
            have M3 := blk_frozen a7.out 2
            have F8 := b4.out
            have F9 := b5.out
            have G0 := d0.out
            have G1 := c7.out
            have G2 := c8.out
            have G3 := c9.out
            have O3 : w82.cell? ⟨a5, 3, none⟩ = some (.int .i64 0) := (blk_cell a7.out 3).trans rfl
            have M4 := blk_frozen a7.out 3
            have G4 := b4.out
            have G5 := b5.out
            have G6 := d0.out
            have G7 := c7.out
            have G8 := c8.out
            have G9 := c9.out
            refine skip_ (w1 := ?_) (by rfl) rfl ?_ ?_
            rotate_left
            ·go_simp
             rfl
            refine hK.out _ _ ⟨((cell_far (p := ⟨a5, _, none⟩) b4.out _).trans (((cell_far (p := ⟨a5, _, none⟩) b4.out _).trans (((cell_far (p := ⟨a5, _, none⟩) b4.out _).trans (((cell_far (p := ⟨a5, _, none⟩) b4.out _).trans (hHeld.1)))))))), ((cell_far (p := ⟨a5, _, none⟩) b4.out _).trans (((cell_far (p := ⟨a5, _, none⟩) b4.out _).trans (((cell_far (p := ⟨a5, _, none⟩) b4.out _).trans (((cell_far (p := ⟨a5, _, none⟩) b4.out _).trans (hHeld.2.1)))))))), ((cell_far (p := ⟨a5, _, none⟩) b4.out _).trans (((cell_far (p := ⟨a5, _, none⟩) b4.out _).trans (((cell_far (p := ⟨a5, _, none⟩) b4.out _).trans (((cell_far (p := ⟨a5, _, none⟩) b4.out _).trans (hHeld.2.2.1)))))))), ((cell_far (p := ⟨a5, _, none⟩) b4.out _).trans (((cell_far (p := ⟨a5, _, none⟩) b4.out _).trans (((cell_far (p := ⟨a5, _, none⟩) b4.out _).trans (((cell_far (p := ⟨a5, _, none⟩) b4.out _).trans (hHeld.2.2.2.1)))))))), ((cell_far (p := ⟨a5, _, none⟩) b5.out _).trans (((cell_far (p := ⟨a5, _, none⟩) b5.out _).trans (((cell_far (p := ⟨a5, _, none⟩) b5.out _).trans (((cell_far (p := ⟨a5, _, none⟩) b5.out _).trans (hHeld.2.2.2.2.1)))))))), ((cell_far (p := ⟨a5, _, none⟩) b5.out _).trans (((cell_far (p := ⟨a5, _, none⟩) b5.out _).trans (((cell_far (p := ⟨a5, _, none⟩) b5.out _).trans (((cell_far (p := ⟨a5, _, none⟩) b5.out _).trans (hHeld.2.2.2.2.2.1)))))))), ((cell_far (p := ⟨a5, _, none⟩) b5.out _).trans (((cell_far (p := ⟨a5, _, none⟩) b5.out _).trans (((cell_far (p := ⟨a5, _, none⟩) b5.out _).trans (((cell_far (p := ⟨a5, _, none⟩) b5.out _).trans (hHeld.2.2.2.2.2.2.1)))))))), ((cell_far (p := ⟨a5, _, none⟩) b5.out _).trans (((cell_far (p := ⟨a5, _, none⟩) b5.out _).trans (((cell_far (p := ⟨a5, _, none⟩) b5.out _).trans (((cell_far (p := ⟨a5, _, none⟩) b5.out _).trans (hHeld.2.2.2.2.2.2.2))))))))⟩ (fun hHeld => ?_)
            clear hK K
            refine done_ (done_of HT_.out (by kernel_rfl)) ?_
            have M5 := c5.out
            have M6 := b2.out
            have M7 := c6.out
            have M8 := b3.out
            have M9 := d0.out
            have N0 := c9.out
            have H0 : w82.cell? ⟨a4, 0, none⟩ = some (.int .i64 0) := (blk_cell a6.out 0).trans rfl
            have H2 : w82.cell? ⟨a4, 1, none⟩ = some (.int .i64 0) := (blk_cell a6.out 1).trans rfl
            have H3 : w82.cell? ⟨a4, 2, none⟩ = some (.int .i64 0) := (blk_cell a6.out 2).trans rfl
            have H4 : w82.cell? ⟨a4, 3, none⟩ = some (.int .i64 0) := (blk_cell a6.out 3).trans rfl
            have H5 := blk_frozen a6.out 0
            have H6 := blk_frozen a6.out 1
            have H7 := blk_frozen a6.out 2
            have H8 := blk_frozen a6.out 3
            have N1 := c7.out
            have N2 := b4.out
            have N3 := c8.out
            have N4 := b5.out
            have H9 : w82.cell? ⟨a5, 0, none⟩ = some (.int .i64 0) := (blk_cell a7.out 0).trans rfl
            have J0 : w82.cell? ⟨a5, 1, none⟩ = some (.int .i64 0) := (blk_cell a7.out 1).trans rfl
            have J1 : w82.cell? ⟨a5, 2, none⟩ = some (.int .i64 0) := (blk_cell a7.out 2).trans rfl
            have J2 : w82.cell? ⟨a5, 3, none⟩ = some (.int .i64 0) := (blk_cell a7.out 3).trans rfl
            have J3 := blk_frozen a7.out 0
            have J4 := blk_frozen a7.out 1
            have J5 := blk_frozen a7.out 2
            have J6 := blk_frozen a7.out 3
            try go_wp2_with (first | ((with_reducible refine gC (f := 22) rfl ?_); refine gL (some 26) rfl rfl Tryd.func22 (by kernel_rfl) rfl #[.agg #[.int .i64 a8, .int .i64 a9, .int .i64 b0, .int .i64 b1], .agg #[.int .i64 b6, .int .i64 b7, .int .i64 b8, .int .i64 b9]] rfl (by (try simp only [List.map_toArray, List.map_cons, List.map_nil]); first | done | rfl | (simp only [List.length_drop, List.length_take]; rfl)) ?_; (with_reducible refine (impl_RGEquals.calls a8 a9 b0 b1 b6 b7 b8 b9 e3 true _ A5.out).mono ?_); rintro e w98 ⟨rfl, hb⟩; refine ⟨_, rfl, ?_⟩; have n0_ := aM (bB (g := a1) (o := .cells #[.int .i64 a0_0, .int .i64 a0_1, .int .i64 a0_2, .int .i64 a0_3] 44 (0, 0)) (by (with_reducible repeat (first | refine bN ?_ _ | refine bD ?_ | refine bA ?_ _)); refine blk_far ?_ b4.out _; (with_reducible repeat (first | refine bN ?_ _ | refine bD ?_ | refine bA ?_ _)); refine blk_far ?_ b4.out _; (with_reducible repeat (first | refine bN ?_ _ | refine bD ?_ | refine bA ?_ _)); refine blk_far ?_ b4.out _; (with_reducible repeat (first | refine bN ?_ _ | refine bD ?_ | refine bA ?_ _)); refine blk_far ?_ b4.out _; (with_reducible repeat (first | refine bN ?_ _ | refine bD ?_ | refine bA ?_ _)); refine blk_far ?_ b2.out _; (with_reducible repeat (first | refine bN ?_ _ | refine bD ?_ | refine bA ?_ _)); refine blk_far ?_ b2.out _; (with_reducible repeat (first | refine bN ?_ _ | refine bD ?_ | refine bA ?_ _)); refine blk_far ?_ b2.out _; (with_reducible repeat (first | refine bN ?_ _ | refine bD ?_ | refine bA ?_ _)); refine blk_far ?_ b2.out _; (with_reducible repeat (first | refine bN ?_ _ | refine bD ?_ | refine bA ?_ _)); exact a0.out) hb); have n1_ := aM (bB (g := a2) (o := .cells #[.int .i64 a1_0, .int .i64 a1_1, .int .i64 a1_2, .int .i64 a1_3] 44 (0, 0)) (by (with_reducible repeat (first | refine bN ?_ _ | refine bD ?_ | refine bA ?_ _)); refine blk_far ?_ b5.out _; (with_reducible repeat (first | refine bN ?_ _ | refine bD ?_ | refine bA ?_ _)); refine blk_far ?_ b5.out _; (with_reducible repeat (first | refine bN ?_ _ | refine bD ?_ | refine bA ?_ _)); refine blk_far ?_ b5.out _; (with_reducible repeat (first | refine bN ?_ _ | refine bD ?_ | refine bA ?_ _)); refine blk_far ?_ b5.out _; (with_reducible repeat (first | refine bN ?_ _ | refine bD ?_ | refine bA ?_ _)); refine blk_far ?_ b3.out _; (with_reducible repeat (first | refine bN ?_ _ | refine bD ?_ | refine bA ?_ _)); refine blk_far ?_ b3.out _; (with_reducible repeat (first | refine bN ?_ _ | refine bD ?_ | refine bA ?_ _)); refine blk_far ?_ b3.out _; (with_reducible repeat (first | refine bN ?_ _ | refine bD ?_ | refine bA ?_ _)); refine blk_far ?_ b3.out _; (with_reducible repeat (first | refine bN ?_ _ | refine bD ?_ | refine bA ?_ _)); exact a3.out) hb); have n2_ := aM (bB (g := a4) (o := .cells #[.int .i64 a8, .int .i64 a9, .int .i64 b0, .int .i64 b1] 44 (0, 0)) (by (with_reducible repeat (first | refine bN ?_ _ | refine bD ?_ | refine bA ?_ _)); refine blk_far ?_ d0.out _; (with_reducible repeat (first | refine bN ?_ _ | refine bD ?_ | refine bA ?_ _)); refine blk_far ?_ d0.out _; (with_reducible repeat (first | refine bN ?_ _ | refine bD ?_ | refine bA ?_ _)); refine blk_far ?_ d0.out _; (with_reducible repeat (first | refine bN ?_ _ | refine bD ?_ | refine bA ?_ _)); refine blk_far ?_ d0.out _; (with_reducible repeat (first | refine bN ?_ _ | refine bD ?_ | refine bA ?_ _)); refine blk_put (cs := #[.int .i64 a8, .int .i64 a9, .int .i64 b0, .int .i64 0]) ?_ 3 _ rfl; (with_reducible repeat (first | refine bN ?_ _ | refine bD ?_ | refine bA ?_ _)); refine blk_put (cs := #[.int .i64 a8, .int .i64 a9, .int .i64 0, .int .i64 0]) ?_ 2 _ rfl; (with_reducible repeat (first | refine bN ?_ _ | refine bD ?_ | refine bA ?_ _)); refine blk_put (cs := #[.int .i64 a8, .int .i64 0, .int .i64 0, .int .i64 0]) ?_ 1 _ rfl; (with_reducible repeat (first | refine bN ?_ _ | refine bD ?_ | refine bA ?_ _)); refine blk_put (cs := #[.int .i64 0, .int .i64 0, .int .i64 0, .int .i64 0]) ?_ 0 _ rfl; (with_reducible repeat (first | refine bN ?_ _ | refine bD ?_ | refine bA ?_ _)); exact a6.out) hb); have n3_ := aM (bB (g := a5) (o := .cells #[.int .i64 b6, .int .i64 b7, .int .i64 b8, .int .i64 b9] 44 (0, 0)) (by (with_reducible repeat (first | refine bN ?_ _ | refine bD ?_ | refine bA ?_ _)); refine blk_put (cs := #[.int .i64 b6, .int .i64 b7, .int .i64 b8, .int .i64 0]) ?_ 3 _ rfl; (with_reducible repeat (first | refine bN ?_ _ | refine bD ?_ | refine bA ?_ _)); refine blk_put (cs := #[.int .i64 b6, .int .i64 b7, .int .i64 0, .int .i64 0]) ?_ 2 _ rfl; (with_reducible repeat (first | refine bN ?_ _ | refine bD ?_ | refine bA ?_ _)); refine blk_put (cs := #[.int .i64 b6, .int .i64 0, .int .i64 0, .int .i64 0]) ?_ 1 _ rfl; (with_reducible repeat (first | refine bN ?_ _ | refine bD ?_ | refine bA ?_ _)); refine blk_put (cs := #[.int .i64 0, .int .i64 0, .int .i64 0, .int .i64 0]) ?_ 0 _ rfl; (with_reducible repeat (first | refine bN ?_ _ | refine bD ?_ | refine bA ?_ _)); refine blk_far ?_ c9.out _; (with_reducible repeat (first | refine bN ?_ _ | refine bD ?_ | refine bA ?_ _)); refine blk_far ?_ c9.out _; (with_reducible repeat (first | refine bN ?_ _ | refine bD ?_ | refine bA ?_ _)); refine blk_far ?_ c9.out _; (with_reducible repeat (first | refine bN ?_ _ | refine bD ?_ | refine bA ?_ _)); refine blk_far ?_ c9.out _; (with_reducible repeat (first | refine bN ?_ _ | refine bD ?_ | refine bA ?_ _)); exact a7.out) hb); have n4_ := aM (wP (by repeat (first | (with_reducible first | exact HB.out | apply wA | apply wN | apply wD | refine wS ?_ c0.out | refine wS ?_ c1.out | refine wS ?_ c3.out | refine wS ?_ c4.out) | exact HB.out)) hb); clear a0; clear a3; clear a6; clear a7; clear HB; have a0 := n0_; have a3 := n1_; have a6 := n2_; have a7 := n3_; have HB := n4_; clear n0_ n1_ n2_ n3_ n4_; (try clear hb); (try clear hb2); (try clear hk); (try clear hi); have J7 : w98.cell? ⟨a4, 0, none⟩ = some (.int .i64 a8) := (blk_cell a6.out 0).trans rfl; have J8 : w98.cell? ⟨a4, 1, none⟩ = some (.int .i64 a9) := (blk_cell a6.out 1).trans rfl; have J9 : w98.cell? ⟨a4, 2, none⟩ = some (.int .i64 b0) := (blk_cell a6.out 2).trans rfl; have L0 : w98.cell? ⟨a4, 3, none⟩ = some (.int .i64 b1) := (blk_cell a6.out 3).trans rfl; have L1 := blk_frozen a6.out 0; have L2 := blk_frozen a6.out 1; have L3 := blk_frozen a6.out 2; have L4 := blk_frozen a6.out 3; have l7 : w98.cell? ⟨a5, 0, none⟩ = some (.int .i64 b6) := (blk_cell a7.out 0).trans rfl; have l8 : w98.cell? ⟨a5, 1, none⟩ = some (.int .i64 b7) := (blk_cell a7.out 1).trans rfl; have l9 : w98.cell? ⟨a5, 2, none⟩ = some (.int .i64 b8) := (blk_cell a7.out 2).trans rfl; have m0 : w98.cell? ⟨a5, 3, none⟩ = some (.int .i64 b9) := (blk_cell a7.out 3).trans rfl; have m1 := blk_frozen a7.out 0; have m2 := blk_frozen a7.out 1; have m3 := blk_frozen a7.out 2; have m4 := blk_frozen a7.out 3) | ((with_reducible refine gC (f := 23) rfl ?_); refine gL (some 32) rfl rfl Tryd.func23 (by kernel_rfl) rfl #[.agg #[.int .i64 a8, .int .i64 a9, .int .i64 b0, .int .i64 b1], .agg #[.int .i64 b6, .int .i64 b7, .int .i64 b8, .int .i64 b9]] rfl (by (try simp only [List.map_toArray, List.map_cons, List.map_nil]); first | done | rfl | (simp only [List.length_drop, List.length_take]; rfl)) ?_; (with_reducible refine (impl_RGSubset.calls a8 a9 b0 b1 b6 b7 b8 b9 e4 true _ A6.out).mono ?_); rintro e g9 ⟨rfl, hb⟩; refine ⟨_, rfl, ?_⟩; have n0_ := aM (bB (g := a1) (o := .cells #[.int .i64 a0_0, .int .i64 a0_1, .int .i64 a0_2, .int .i64 a0_3] 44 (0, 0)) (by (with_reducible repeat (first | refine bN ?_ _ | refine bD ?_ | refine bA ?_ _)); exact a0.out) hb); have n1_ := aM (bB (g := a2) (o := .cells #[.int .i64 a1_0, .int .i64 a1_1, .int .i64 a1_2, .int .i64 a1_3] 44 (0, 0)) (by (with_reducible repeat (first | refine bN ?_ _ | refine bD ?_ | refine bA ?_ _)); exact a3.out) hb); have n2_ := aM (bB (g := a4) (o := .cells #[.int .i64 a8, .int .i64 a9, .int .i64 b0, .int .i64 b1] 44 (0, 0)) (by (with_reducible repeat (first | refine bN ?_ _ | refine bD ?_ | refine bA ?_ _)); exact a6.out) hb); have n3_ := aM (bB (g := a5) (o := .cells #[.int .i64 b6, .int .i64 b7, .int .i64 b8, .int .i64 b9] 44 (0, 0)) (by (with_reducible repeat (first | refine bN ?_ _ | refine bD ?_ | refine bA ?_ _)); exact a7.out) hb); have n4_ := aM (wP (by repeat (first | (with_reducible first | exact HB.out | apply wA | apply wN | apply wD | refine wS ?_ c0.out | refine wS ?_ c1.out | refine wS ?_ c3.out | refine wS ?_ c4.out) | exact HB.out)) hb); clear a0; clear a3; clear a6; clear a7; clear HB; have a0 := n0_; have a3 := n1_; have a6 := n2_; have a7 := n3_; have HB := n4_; clear n0_ n1_ n2_ n3_ n4_; (try clear hb); (try clear hb2); (try clear hk); (try clear hi); have m5 : g9.cell? ⟨a4, 0, none⟩ = some (.int .i64 a8) := (blk_cell a6.out 0).trans rfl; have m6 : g9.cell? ⟨a4, 1, none⟩ = some (.int .i64 a9) := (blk_cell a6.out 1).trans rfl; have m7 : g9.cell? ⟨a4, 2, none⟩ = some (.int .i64 b0) := (blk_cell a6.out 2).trans rfl; have m8 : g9.cell? ⟨a4, 3, none⟩ = some (.int .i64 b1) := (blk_cell a6.out 3).trans rfl; have m9 := blk_frozen a6.out 0; have n0 := blk_frozen a6.out 1; have n1 := blk_frozen a6.out 2; have n2 := blk_frozen a6.out 3; have n3 : g9.cell? ⟨a5, 0, none⟩ = some (.int .i64 b6) := (blk_cell a7.out 0).trans rfl; have n4 : g9.cell? ⟨a5, 1, none⟩ = some (.int .i64 b7) := (blk_cell a7.out 1).trans rfl; have n5 : g9.cell? ⟨a5, 2, none⟩ = some (.int .i64 b8) := (blk_cell a7.out 2).trans rfl; have n6 : g9.cell? ⟨a5, 3, none⟩ = some (.int .i64 b9) := (blk_cell a7.out 3).trans rfl; have n7 := blk_frozen a7.out 0; have n8 := blk_frozen a7.out 1; have n9 := blk_frozen a7.out 2; have o0 := blk_frozen a7.out 3) | ((with_reducible refine gC (f := 24) rfl ?_); refine gL (some 38) rfl rfl Tryd.func24 (by kernel_rfl) rfl #[.agg #[.int .i64 a8, .int .i64 a9, .int .i64 b0, .int .i64 b1], .agg #[.int .i64 b6, .int .i64 b7, .int .i64 b8, .int .i64 b9]] rfl (by (try simp only [List.map_toArray, List.map_cons, List.map_nil]); first | done | rfl | (simp only [List.length_drop, List.length_take]; rfl)) ?_; (with_reducible refine (impl_RGSuperset.calls a8 a9 b0 b1 b6 b7 b8 b9 e5 true _ A7.out).mono ?_); rintro e h0 ⟨rfl, hb⟩; refine ⟨_, rfl, ?_⟩; have n0_ := aM (bB (g := a1) (o := .cells #[.int .i64 a0_0, .int .i64 a0_1, .int .i64 a0_2, .int .i64 a0_3] 44 (0, 0)) (by (with_reducible repeat (first | refine bN ?_ _ | refine bD ?_ | refine bA ?_ _)); exact a0.out) hb); have n1_ := aM (bB (g := a2) (o := .cells #[.int .i64 a1_0, .int .i64 a1_1, .int .i64 a1_2, .int .i64 a1_3] 44 (0, 0)) (by (with_reducible repeat (first | refine bN ?_ _ | refine bD ?_ | refine bA ?_ _)); exact a3.out) hb); have n2_ := aM (bB (g := a4) (o := .cells #[.int .i64 a8, .int .i64 a9, .int .i64 b0, .int .i64 b1] 44 (0, 0)) (by (with_reducible repeat (first | refine bN ?_ _ | refine bD ?_ | refine bA ?_ _)); exact a6.out) hb); have n3_ := aM (bB (g := a5) (o := .cells #[.int .i64 b6, .int .i64 b7, .int .i64 b8, .int .i64 b9] 44 (0, 0)) (by (with_reducible repeat (first | refine bN ?_ _ | refine bD ?_ | refine bA ?_ _)); exact a7.out) hb); have n4_ := aM (wP (by repeat (first | (with_reducible first | exact HB.out | apply wA | apply wN | apply wD | refine wS ?_ c0.out | refine wS ?_ c1.out | refine wS ?_ c3.out | refine wS ?_ c4.out) | exact HB.out)) hb); clear a0; clear a3; clear a6; clear a7; clear HB; have a0 := n0_; have a3 := n1_; have a6 := n2_; have a7 := n3_; have HB := n4_; clear n0_ n1_ n2_ n3_ n4_; (try clear hb); (try clear hb2); (try clear hk); (try clear hi); have o1 : h0.cell? ⟨a4, 0, none⟩ = some (.int .i64 a8) := (blk_cell a6.out 0).trans rfl; have o2 : h0.cell? ⟨a4, 1, none⟩ = some (.int .i64 a9) := (blk_cell a6.out 1).trans rfl; have o3 : h0.cell? ⟨a4, 2, none⟩ = some (.int .i64 b0) := (blk_cell a6.out 2).trans rfl; have o4 : h0.cell? ⟨a4, 3, none⟩ = some (.int .i64 b1) := (blk_cell a6.out 3).trans rfl; have o5 := blk_frozen a6.out 0; have o6 := blk_frozen a6.out 1; have o7 := blk_frozen a6.out 2; have o8 := blk_frozen a6.out 3; have o9 : h0.cell? ⟨a5, 0, none⟩ = some (.int .i64 b6) := (blk_cell a7.out 0).trans rfl; have p0 : h0.cell? ⟨a5, 1, none⟩ = some (.int .i64 b7) := (blk_cell a7.out 1).trans rfl; have p1 : h0.cell? ⟨a5, 2, none⟩ = some (.int .i64 b8) := (blk_cell a7.out 2).trans rfl; have p2 : h0.cell? ⟨a5, 3, none⟩ = some (.int .i64 b9) := (blk_cell a7.out 3).trans rfl; have p3 := blk_frozen a7.out 0; have p4 := blk_frozen a7.out 1; have p5 := blk_frozen a7.out 2; have p6 := blk_frozen a7.out 3) | ((with_reducible refine gC (f := 25) rfl ?_); refine gL (some 44) rfl rfl Tryd.func25 (by kernel_rfl) rfl #[.agg #[.int .i64 a8, .int .i64 a9, .int .i64 b0, .int .i64 b1], .agg #[.int .i64 b6, .int .i64 b7, .int .i64 b8, .int .i64 b9]] rfl (by (try simp only [List.map_toArray, List.map_cons, List.map_nil]); first | done | rfl | (simp only [List.length_drop, List.length_take]; rfl)) ?_; (with_reducible refine (impl_RGConnected.calls a8 a9 b0 b1 b6 b7 b8 b9 e6 true _ A8.out).mono ?_); rintro e j4 ⟨rfl, hb⟩; refine ⟨_, rfl, ?_⟩; have n0_ := aM (bB (g := a1) (o := .cells #[.int .i64 a0_0, .int .i64 a0_1, .int .i64 a0_2, .int .i64 a0_3] 44 (0, 0)) (by (with_reducible repeat (first | refine bN ?_ _ | refine bD ?_ | refine bA ?_ _)); exact a0.out) hb); have n1_ := aM (bB (g := a2) (o := .cells #[.int .i64 a1_0, .int .i64 a1_1, .int .i64 a1_2, .int .i64 a1_3] 44 (0, 0)) (by (with_reducible repeat (first | refine bN ?_ _ | refine bD ?_ | refine bA ?_ _)); exact a3.out) hb); have n2_ := aM (bB (g := a4) (o := .cells #[.int .i64 a8, .int .i64 a9, .int .i64 b0, .int .i64 b1] 44 (0, 0)) (by (with_reducible repeat (first | refine bN ?_ _ | refine bD ?_ | refine bA ?_ _)); exact a6.out) hb); have n3_ := aM (bB (g := a5) (o := .cells #[.int .i64 b6, .int .i64 b7, .int .i64 b8, .int .i64 b9] 44 (0, 0)) (by (with_reducible repeat (first | refine bN ?_ _ | refine bD ?_ | refine bA ?_ _)); exact a7.out) hb); have n4_ := aM (wP (by repeat (first | (with_reducible first | exact HB.out | apply wA | apply wN | apply wD | refine wS ?_ c0.out | refine wS ?_ c1.out | refine wS ?_ c3.out | refine wS ?_ c4.out) | exact HB.out)) hb); clear a0; clear a3; clear a6; clear a7; clear HB; have a0 := n0_; have a3 := n1_; have a6 := n2_; have a7 := n3_; have HB := n4_; clear n0_ n1_ n2_ n3_ n4_; (try clear hb); (try clear hb2); (try clear hk); (try clear hi); have p7 : j4.cell? ⟨a4, 0, none⟩ = some (.int .i64 a8) := (blk_cell a6.out 0).trans rfl; have p8 : j4.cell? ⟨a4, 1, none⟩ = some (.int .i64 a9) := (blk_cell a6.out 1).trans rfl; have p9 : j4.cell? ⟨a4, 2, none⟩ = some (.int .i64 b0) := (blk_cell a6.out 2).trans rfl; have q0 : j4.cell? ⟨a4, 3, none⟩ = some (.int .i64 b1) := (blk_cell a6.out 3).trans rfl; have q1 := blk_frozen a6.out 0; have q2 := blk_frozen a6.out 1; have q3 := blk_frozen a6.out 2; have q4 := blk_frozen a6.out 3) | ((with_reducible refine gC (f := 26) rfl ?_); refine gL (some 49) rfl rfl Tryd.func26 (by kernel_rfl) rfl #[.agg #[.int .i64 a8, .int .i64 a9, .int .i64 b0, .int .i64 b1]] rfl (by (try simp only [List.map_toArray, List.map_cons, List.map_nil]); first | done | rfl | (simp only [List.length_drop, List.length_take]; rfl)) ?_; (with_reducible refine (impl_RGEmpty.calls a8 a9 b0 b1 false true _ A9.out).mono ?_); rintro e j5 ⟨rfl, hb⟩; refine ⟨_, rfl, ?_⟩; have n0_ := aM (bB (g := a1) (o := .cells #[.int .i64 a0_0, .int .i64 a0_1, .int .i64 a0_2, .int .i64 a0_3] 44 (0, 0)) (by (with_reducible repeat (first | refine bN ?_ _ | refine bD ?_ | refine bA ?_ _)); exact a0.out) hb); have n1_ := aM (bB (g := a2) (o := .cells #[.int .i64 a1_0, .int .i64 a1_1, .int .i64 a1_2, .int .i64 a1_3] 44 (0, 0)) (by (with_reducible repeat (first | refine bN ?_ _ | refine bD ?_ | refine bA ?_ _)); exact a3.out) hb); have n2_ := aM (bB (g := a4) (o := .cells #[.int .i64 a8, .int .i64 a9, .int .i64 b0, .int .i64 b1] 44 (0, 0)) (by (with_reducible repeat (first | refine bN ?_ _ | refine bD ?_ | refine bA ?_ _)); exact a6.out) hb); have n3_ := aM (bB (g := a5) (o := .cells #[.int .i64 b6, .int .i64 b7, .int .i64 b8, .int .i64 b9] 44 (0, 0)) (by (with_reducible repeat (first | refine bN ?_ _ | refine bD ?_ | refine bA ?_ _)); exact a7.out) hb); have n4_ := aM (wP (by repeat (first | (with_reducible first | exact HB.out | apply wA | apply wN | apply wD | refine wS ?_ c0.out | refine wS ?_ c1.out | refine wS ?_ c3.out | refine wS ?_ c4.out) | exact HB.out)) hb); clear a0; clear a3; clear a6; clear a7; clear HB; have a0 := n0_; have a3 := n1_; have a6 := n2_; have a7 := n3_; have HB := n4_; clear n0_ n1_ n2_ n3_ n4_; (try clear hb); (try clear hb2); (try clear hk); (try clear hi); have q5 : j5.cell? ⟨a4, 0, none⟩ = some (.int .i64 a8) := (blk_cell a6.out 0).trans rfl; have q6 : j5.cell? ⟨a4, 1, none⟩ = some (.int .i64 a9) := (blk_cell a6.out 1).trans rfl; have q7 : j5.cell? ⟨a4, 2, none⟩ = some (.int .i64 b0) := (blk_cell a6.out 2).trans rfl; have q8 : j5.cell? ⟨a4, 3, none⟩ = some (.int .i64 b1) := (blk_cell a6.out 3).trans rfl; have q9 := blk_frozen a6.out 0; have r0 := blk_frozen a6.out 1; have r1 := blk_frozen a6.out 2; have r2 := blk_frozen a6.out 3) | ((with_reducible refine gC (f := 22) rfl ?_); refine gL (some 55) rfl rfl Tryd.func22 (by kernel_rfl) rfl #[.agg #[.int .i64 a8, .int .i64 a9, .int .i64 b0, .int .i64 b1], .agg #[.int .i64 a8, .int .i64 a9, .int .i64 b0, .int .i64 b1]] rfl (by (try simp only [List.map_toArray, List.map_cons, List.map_nil]); first | done | rfl | (simp only [List.length_drop, List.length_take]; rfl)) ?_; (with_reducible refine (impl_RGEquals.calls a8 a9 b0 b1 a8 a9 b0 b1 f1 true _ A10.out).mono ?_); rintro e h1 ⟨rfl, hb⟩; refine ⟨_, rfl, ?_⟩; have n0_ := aM (bB (g := a1) (o := .cells #[.int .i64 a0_0, .int .i64 a0_1, .int .i64 a0_2, .int .i64 a0_3] 44 (0, 0)) (by (with_reducible repeat (first | refine bN ?_ _ | refine bD ?_ | refine bA ?_ _)); exact a0.out) hb); have n1_ := aM (bB (g := a2) (o := .cells #[.int .i64 a1_0, .int .i64 a1_1, .int .i64 a1_2, .int .i64 a1_3] 44 (0, 0)) (by (with_reducible repeat (first | refine bN ?_ _ | refine bD ?_ | refine bA ?_ _)); exact a3.out) hb); have n2_ := aM (bB (g := a4) (o := .cells #[.int .i64 a8, .int .i64 a9, .int .i64 b0, .int .i64 b1] 44 (0, 0)) (by (with_reducible repeat (first | refine bN ?_ _ | refine bD ?_ | refine bA ?_ _)); exact a6.out) hb); have n3_ := aM (bB (g := a5) (o := .cells #[.int .i64 b6, .int .i64 b7, .int .i64 b8, .int .i64 b9] 44 (0, 0)) (by (with_reducible repeat (first | refine bN ?_ _ | refine bD ?_ | refine bA ?_ _)); exact a7.out) hb); have n4_ := aM (wP (by repeat (first | (with_reducible first | exact HB.out | apply wA | apply wN | apply wD | refine wS ?_ c0.out | refine wS ?_ c1.out | refine wS ?_ c3.out | refine wS ?_ c4.out) | exact HB.out)) hb); clear a0; clear a3; clear a6; clear a7; clear HB; have a0 := n0_; have a3 := n1_; have a6 := n2_; have a7 := n3_; have HB := n4_; clear n0_ n1_ n2_ n3_ n4_; (try clear hb); (try clear hb2); (try clear hk); (try clear hi); have r3 : h1.cell? ⟨a4, 0, none⟩ = some (.int .i64 a8) := (blk_cell a6.out 0).trans rfl; have r4 : h1.cell? ⟨a4, 1, none⟩ = some (.int .i64 a9) := (blk_cell a6.out 1).trans rfl; have r5 : h1.cell? ⟨a4, 2, none⟩ = some (.int .i64 b0) := (blk_cell a6.out 2).trans rfl; have r6 : h1.cell? ⟨a4, 3, none⟩ = some (.int .i64 b1) := (blk_cell a6.out 3).trans rfl; have r7 := blk_frozen a6.out 0; have r8 := blk_frozen a6.out 1; have r9 := blk_frozen a6.out 2; have s8 := blk_frozen a6.out 3; have s9 : h1.cell? ⟨a5, 0, none⟩ = some (.int .i64 b6) := (blk_cell a7.out 0).trans rfl; have t0 : h1.cell? ⟨a5, 1, none⟩ = some (.int .i64 b7) := (blk_cell a7.out 1).trans rfl; have t1 : h1.cell? ⟨a5, 2, none⟩ = some (.int .i64 b8) := (blk_cell a7.out 2).trans rfl; have t2 : h1.cell? ⟨a5, 3, none⟩ = some (.int .i64 b9) := (blk_cell a7.out 3).trans rfl; have t3 := blk_frozen a7.out 0; have t4 := blk_frozen a7.out 1; have t5 := blk_frozen a7.out 2; have t6 := blk_frozen a7.out 3) | (go_at_call 27; (with_reducible refine (spec_RGSame.calls k a8 a9 b0 b1 b6 b7 b8 b9 d5 _ A17.out).mono ?_); rintro e h2 ⟨rfl, hb⟩; have n0_ := aM (bB (g := a1) (o := .cells #[.int .i64 a0_0, .int .i64 a0_1, .int .i64 a0_2, .int .i64 a0_3] 44 (0, 0)) (by (with_reducible repeat (first | refine bN ?_ _ | refine bD ?_ | refine bA ?_ _)); exact a0.out) hb); have n1_ := aM (bB (g := a2) (o := .cells #[.int .i64 a1_0, .int .i64 a1_1, .int .i64 a1_2, .int .i64 a1_3] 44 (0, 0)) (by (with_reducible repeat (first | refine bN ?_ _ | refine bD ?_ | refine bA ?_ _)); exact a3.out) hb); have n2_ := aM (bB (g := a4) (o := .cells #[.int .i64 a8, .int .i64 a9, .int .i64 b0, .int .i64 b1] 44 (0, 0)) (by (with_reducible repeat (first | refine bN ?_ _ | refine bD ?_ | refine bA ?_ _)); exact a6.out) hb); have n3_ := aM (bB (g := a5) (o := .cells #[.int .i64 b6, .int .i64 b7, .int .i64 b8, .int .i64 b9] 44 (0, 0)) (by (with_reducible repeat (first | refine bN ?_ _ | refine bD ?_ | refine bA ?_ _)); exact a7.out) hb); have n4_ := aM (wP (by repeat (first | (with_reducible first | exact HB.out | apply wA | apply wN | apply wD | refine wS ?_ c0.out | refine wS ?_ c1.out | refine wS ?_ c3.out | refine wS ?_ c4.out) | exact HB.out)) hb); clear a0; clear a3; clear a6; clear a7; clear HB; have a0 := n0_; have a3 := n1_; have a6 := n2_; have a7 := n3_; have HB := n4_; clear n0_ n1_ n2_ n3_ n4_; (try clear hb); (try clear hb2); (try clear hk); (try clear hi); have t7 : h2.cell? ⟨a4, 0, none⟩ = some (.int .i64 a8) := (blk_cell a6.out 0).trans rfl; have t8 : h2.cell? ⟨a4, 1, none⟩ = some (.int .i64 a9) := (blk_cell a6.out 1).trans rfl; have t9 : h2.cell? ⟨a4, 2, none⟩ = some (.int .i64 b0) := (blk_cell a6.out 2).trans rfl; have v0 : h2.cell? ⟨a4, 3, none⟩ = some (.int .i64 b1) := (blk_cell a6.out 3).trans rfl; have v1 := blk_frozen a6.out 0; have v2 := blk_frozen a6.out 1; have v3 := blk_frozen a6.out 2; have v4 := blk_frozen a6.out 3; have v5 : h2.cell? ⟨a5, 0, none⟩ = some (.int .i64 b6) := (blk_cell a7.out 0).trans rfl; have v6 : h2.cell? ⟨a5, 1, none⟩ = some (.int .i64 b7) := (blk_cell a7.out 1).trans rfl; have v7 : h2.cell? ⟨a5, 2, none⟩ = some (.int .i64 b8) := (blk_cell a7.out 2).trans rfl; have v8 : h2.cell? ⟨a5, 3, none⟩ = some (.int .i64 b9) := (blk_cell a7.out 3).trans rfl; have v9 := blk_frozen a7.out 0; have x0 := blk_frozen a7.out 1; have x1 := blk_frozen a7.out 2; have x2 := blk_frozen a7.out 3) | (go_at_call 28; (with_reducible refine (spec_RGUnder.calls k a8 a9 b0 b1 b6 b7 b8 b9 d4 _ A19.out).mono ?_); rintro e h3 ⟨rfl, hb⟩; have n0_ := aM (bB (g := a1) (o := .cells #[.int .i64 a0_0, .int .i64 a0_1, .int .i64 a0_2, .int .i64 a0_3] 44 (0, 0)) (by (with_reducible repeat (first | refine bN ?_ _ | refine bD ?_ | refine bA ?_ _)); exact a0.out) hb); have n1_ := aM (bB (g := a2) (o := .cells #[.int .i64 a1_0, .int .i64 a1_1, .int .i64 a1_2, .int .i64 a1_3] 44 (0, 0)) (by (with_reducible repeat (first | refine bN ?_ _ | refine bD ?_ | refine bA ?_ _)); exact a3.out) hb); have n2_ := aM (bB (g := a4) (o := .cells #[.int .i64 a8, .int .i64 a9, .int .i64 b0, .int .i64 b1] 44 (0, 0)) (by (with_reducible repeat (first | refine bN ?_ _ | refine bD ?_ | refine bA ?_ _)); exact a6.out) hb); have n3_ := aM (bB (g := a5) (o := .cells #[.int .i64 b6, .int .i64 b7, .int .i64 b8, .int .i64 b9] 44 (0, 0)) (by (with_reducible repeat (first | refine bN ?_ _ | refine bD ?_ | refine bA ?_ _)); exact a7.out) hb); have n4_ := aM (wP (by repeat (first | (with_reducible first | exact HB.out | apply wA | apply wN | apply wD | refine wS ?_ c0.out | refine wS ?_ c1.out | refine wS ?_ c3.out | refine wS ?_ c4.out) | exact HB.out)) hb); clear a0; clear a3; clear a6; clear a7; clear HB; have a0 := n0_; have a3 := n1_; have a6 := n2_; have a7 := n3_; have HB := n4_; clear n0_ n1_ n2_ n3_ n4_; (try clear hb); (try clear hb2); (try clear hk); (try clear hi); have x3 : h3.cell? ⟨a5, 0, none⟩ = some (.int .i64 b6) := (blk_cell a7.out 0).trans rfl; have x4 : h3.cell? ⟨a5, 1, none⟩ = some (.int .i64 b7) := (blk_cell a7.out 1).trans rfl; have x5 : h3.cell? ⟨a5, 2, none⟩ = some (.int .i64 b8) := (blk_cell a7.out 2).trans rfl; have x6 : h3.cell? ⟨a5, 3, none⟩ = some (.int .i64 b9) := (blk_cell a7.out 3).trans rfl; have x7 := blk_frozen a7.out 0; have x8 := blk_frozen a7.out 1; have x9 := blk_frozen a7.out 2; have y0 := blk_frozen a7.out 3; have y1 : h3.cell? ⟨a4, 0, none⟩ = some (.int .i64 a8) := (blk_cell a6.out 0).trans rfl; have y2 : h3.cell? ⟨a4, 1, none⟩ = some (.int .i64 a9) := (blk_cell a6.out 1).trans rfl; have y3 : h3.cell? ⟨a4, 2, none⟩ = some (.int .i64 b0) := (blk_cell a6.out 2).trans rfl; have y4 : h3.cell? ⟨a4, 3, none⟩ = some (.int .i64 b1) := (blk_cell a6.out 3).trans rfl; have y5 := blk_frozen a6.out 0; have y6 := blk_frozen a6.out 1; have y7 := blk_frozen a6.out 2; have y8 := blk_frozen a6.out 3) | (go_at_call 28; (with_reducible refine (spec_RGUnder.calls k b6 b7 b8 b9 a8 a9 b0 b1 d3 _ A21.out).mono ?_); rintro e h4 ⟨rfl, hb⟩; have n0_ := aM (bB (g := a1) (o := .cells #[.int .i64 a0_0, .int .i64 a0_1, .int .i64 a0_2, .int .i64 a0_3] 44 (0, 0)) (by (with_reducible repeat (first | refine bN ?_ _ | refine bD ?_ | refine bA ?_ _)); exact a0.out) hb); have n1_ := aM (bB (g := a2) (o := .cells #[.int .i64 a1_0, .int .i64 a1_1, .int .i64 a1_2, .int .i64 a1_3] 44 (0, 0)) (by (with_reducible repeat (first | refine bN ?_ _ | refine bD ?_ | refine bA ?_ _)); exact a3.out) hb); have n2_ := aM (bB (g := a4) (o := .cells #[.int .i64 a8, .int .i64 a9, .int .i64 b0, .int .i64 b1] 44 (0, 0)) (by (with_reducible repeat (first | refine bN ?_ _ | refine bD ?_ | refine bA ?_ _)); exact a6.out) hb); have n3_ := aM (bB (g := a5) (o := .cells #[.int .i64 b6, .int .i64 b7, .int .i64 b8, .int .i64 b9] 44 (0, 0)) (by (with_reducible repeat (first | refine bN ?_ _ | refine bD ?_ | refine bA ?_ _)); exact a7.out) hb); have n4_ := aM (wP (by repeat (first | (with_reducible first | exact HB.out | apply wA | apply wN | apply wD | refine wS ?_ c0.out | refine wS ?_ c1.out | refine wS ?_ c3.out | refine wS ?_ c4.out) | exact HB.out)) hb); clear a0; clear a3; clear a6; clear a7; clear HB; have a0 := n0_; have a3 := n1_; have a6 := n2_; have a7 := n3_; have HB := n4_; clear n0_ n1_ n2_ n3_ n4_; (try clear hb); (try clear hb2); (try clear hk); (try clear hi); have y9 : h4.cell? ⟨a4, 0, none⟩ = some (.int .i64 a8) := (blk_cell a6.out 0).trans rfl; have A0 : h4.cell? ⟨a4, 1, none⟩ = some (.int .i64 a9) := (blk_cell a6.out 1).trans rfl; have A1 : h4.cell? ⟨a4, 2, none⟩ = some (.int .i64 b0) := (blk_cell a6.out 2).trans rfl; have A2 : h4.cell? ⟨a4, 3, none⟩ = some (.int .i64 b1) := (blk_cell a6.out 3).trans rfl; have B0 := blk_frozen a6.out 0; have B1 := blk_frozen a6.out 1; have B2 := blk_frozen a6.out 2; have B3 := blk_frozen a6.out 3; have B4 : h4.cell? ⟨a5, 0, none⟩ = some (.int .i64 b6) := (blk_cell a7.out 0).trans rfl; have B5 : h4.cell? ⟨a5, 1, none⟩ = some (.int .i64 b7) := (blk_cell a7.out 1).trans rfl; have B6 : h4.cell? ⟨a5, 2, none⟩ = some (.int .i64 b8) := (blk_cell a7.out 2).trans rfl; have B7 : h4.cell? ⟨a5, 3, none⟩ = some (.int .i64 b9) := (blk_cell a7.out 3).trans rfl; have B8 := blk_frozen a7.out 0; have B9 := blk_frozen a7.out 1; have C0 := blk_frozen a7.out 2; have C1 := blk_frozen a7.out 3) | (go_at_call 29; (with_reducible refine (spec_RGTouch.calls k a8 a9 b0 b1 b6 b7 b8 b9 d2 _ A23.out).mono ?_); rintro e O4 ⟨rfl, hb⟩; have n0_ := aM (bB (g := a1) (o := .cells #[.int .i64 a0_0, .int .i64 a0_1, .int .i64 a0_2, .int .i64 a0_3] 44 (0, 0)) (by (with_reducible repeat (first | refine bN ?_ _ | refine bD ?_ | refine bA ?_ _)); exact a0.out) hb); have n1_ := aM (bB (g := a2) (o := .cells #[.int .i64 a1_0, .int .i64 a1_1, .int .i64 a1_2, .int .i64 a1_3] 44 (0, 0)) (by (with_reducible repeat (first | refine bN ?_ _ | refine bD ?_ | refine bA ?_ _)); exact a3.out) hb); have n2_ := aM (bB (g := a4) (o := .cells #[.int .i64 a8, .int .i64 a9, .int .i64 b0, .int .i64 b1] 44 (0, 0)) (by (with_reducible repeat (first | refine bN ?_ _ | refine bD ?_ | refine bA ?_ _)); exact a6.out) hb); have n3_ := aM (bB (g := a5) (o := .cells #[.int .i64 b6, .int .i64 b7, .int .i64 b8, .int .i64 b9] 44 (0, 0)) (by (with_reducible repeat (first | refine bN ?_ _ | refine bD ?_ | refine bA ?_ _)); exact a7.out) hb); have n4_ := aM (wP (by repeat (first | (with_reducible first | exact HB.out | apply wA | apply wN | apply wD | refine wS ?_ c0.out | refine wS ?_ c1.out | refine wS ?_ c3.out | refine wS ?_ c4.out) | exact HB.out)) hb); clear a0; clear a3; clear a6; clear a7; clear HB; have a0 := n0_; have a3 := n1_; have a6 := n2_; have a7 := n3_; have HB := n4_; clear n0_ n1_ n2_ n3_ n4_; (try clear hb); (try clear hb2); (try clear hk); (try clear hi)))
            go_ret
            exact ⟨by first | rfl | (simp [errW_none, errW_some] <;> rfl) | (simp [*, errW_none, errW_some] <;> rfl), by repeat (first | (with_reducible first | exact HB.out | apply wA | apply wN | apply wD | refine wS ?_ c0.out | refine wS ?_ c1.out | refine wS ?_ c3.out | refine wS ?_ c4.out) | exact HB.out)⟩
          ·rw [if_neg c24] at H
           have c24b0 : (e6 == d2) = false := by simpa using c24
           (try (have c24b1 : decide (e6 = d2) = false := by simpa using c24))
           (try (have c24b2 : (e6 == d2) = false := by simpa using c24))
           (try (have c24b3 : ¬ (e6 = d2) := by simpa using c24))
           clear c24
           exact absurd (H.trans (congrArg some hr1)) (by decide)
         ·rw [if_neg c22] at H
          have c22b0 : (e5 == d3) = false := by simpa using c22
          (try (have c22b1 : decide (e5 = d3) = false := by simpa using c22))
          (try (have c22b2 : (e5 == d3) = false := by simpa using c22))
          (try (have c22b3 : ¬ (e5 = d3) := by simpa using c22))
          clear c22
          exact absurd (H.trans (congrArg some hr1)) (by decide)
        ·rw [if_neg c20] at H
         have c20b0 : (e4 == d4) = false := by simpa using c20
         (try (have c20b1 : decide (e4 = d4) = false := by simpa using c20))
         (try (have c20b2 : (e4 == d4) = false := by simpa using c20))
         (try (have c20b3 : ¬ (e4 = d4) := by simpa using c20))
         clear c20
         exact absurd (H.trans (congrArg some hr1)) (by decide)
       ·rw [if_neg c18] at H
        have c18b0 : (e3 == d5) = false := by simpa using c18
        (try (have c18b1 : decide (e3 = d5) = false := by simpa using c18))
        (try (have c18b2 : (e3 == d5) = false := by simpa using c18))
        (try (have c18b3 : ¬ (e3 = d5) := by simpa using c18))
        clear c18
        exact absurd (H.trans (congrArg some hr1)) (by decide)
      ·replace c16 := Bool.eq_false_iff.mpr c16
       subst c16
       have H1 : (some false) = some r := by rw [if_neg (show ¬ (false = true) by decide)] at H; exact H
       clear H
       have H := H1
       clear H1
       exact absurd (H.trans (congrArg some hr1)) (by decide)
     ·replace c15 := Bool.eq_false_iff.mpr c15
      subst c15
      have H1 : (some false) = some r := by rw [if_neg (show ¬ (false = true) by decide)] at H; exact H
      clear H
      have H := H1
      clear H1
      exact absurd (H.trans (congrArg some hr1)) (by decide)
    ·replace c14 := Bool.eq_false_iff.mpr c14
     subst c14
     have H1 : (some false) = some r := by rw [if_neg (show ¬ (false = true) by decide)] at H; exact H
     clear H
     have H := H1
     clear H1
     exact absurd (H.trans (congrArg some hr1)) (by decide)
   ·replace c13 := Bool.eq_false_iff.mpr c13
    subst c13
    have H1 : (some false) = some r := by rw [if_neg (show ¬ (false = true) by decide)] at H; exact H
    clear H
    have H := H1
    clear H1
    exact absurd (H.trans (congrArg some hr1)) (by decide)
  ·replace c12 := Bool.eq_false_iff.mpr c12
   subst c12
   have H1 : (some false) = some r := by rw [if_neg (show ¬ (false = true) by decide)] at H; exact H
   clear H
   have H := H1
   clear H1
   exact absurd (H.trans (congrArg some hr1)) (by decide)
 ·replace c11 := Bool.eq_false_iff.mpr c11
  subst c11
  have H1 : (some false) = some r := by rw [if_neg (show ¬ (false = true) by decide)] at H; exact H
  clear H
  have H := H1
  clear H1
  exact absurd (H.trans (congrArg some hr1)) (by decide)

end Go.Proofs.YtlcoodjkolponaaDoor.PRA
