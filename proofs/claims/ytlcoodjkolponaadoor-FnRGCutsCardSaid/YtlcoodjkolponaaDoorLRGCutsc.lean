-- written by gprint.py, a program of this claim's own, by means of the kit's print
import Derived.Test.YtlcoodjkolponaaDoorLRGCutsd
namespace Go.Proofs.YtlcoodjkolponaaDoor.PRG
open Go.RowKit Go.Proofs.YtlcoodjkolponaaDoorW.PrintWords Go.Proofs.YtlcoodjkolponaaDoorW.PrintLast Go.Proofs.YtlcoodjkolponaaDoorW.PrintMore
attribute [local go_sem] max2_int min2_int max_two min_two max_three min_three max_four min_four   -- for this text's walks alone
set_option linter.unusedVariables false
set_option linter.unusedSimpArgs false
attribute [local go_sem high] eqA23
open Go.Proofs.YtlcoodjkolponaaDoorW.PrintWords renaming blk_drewN → bN, blk_drew → bD, blk_alloc → bA, below_set → wS, below_alloc → wA, pw_below_drewN → wN, below_drew1 → wD, below_step → wP, blk_below → bB, blk_lt → bL, gate_callee → gC
open Go.Proofs.YtlcoodjkolponaaDoorW.PrintLast renaming goesL_ → gL
open Go.Proofs.YtlcoodjkolponaaDoorW.PrintWords.Aside0 renaming mk → aM
set_option maxHeartbeats 8000000 in
set_option maxRecDepth 100000 in
theorem laws_FnRGCuts.calls (k : Nat) (a0_0 : Int) (a0_1 : Int) (a1_0 : Int) (a1_1 : Int) (a2_0 : Int) (a2_1 : Int) (r : Bool) (w : World) (h : laws_FnRGCuts.f k a0_0 a0_1 a1_0 a1_1 a2_0 a2_1 = some r) :
  Calls Tryd.prog 3 #[.agg #[.int .i64 a0_0, .int .i64 a0_1], .agg #[.int .i64 a1_0, .int .i64 a1_1], .agg #[.int .i64 a2_0, .int .i64 a2_1]] w fun e w' => e = .returned (.bool r) ∧ Below w.heap.size w w' := by
 have bl_ := Tryd.underlying23
 have HB := aM (Below.refl w.heap.size w)
 have H : ((laws_rgCut.f a0_0 a0_1).bind fun v7 => ((laws_rgCut.f a1_0 a1_1).bind fun q5 => ((laws_rgCut.f a2_0 a2_1).bind fun n5 => ((some (([(⟨v7.1, v7.2⟩ : S23), (⟨q5.1, q5.2⟩ : S23), (⟨n5.1, n5.2⟩ : S23)] : List (S23)) : List (S23))).bind fun a3 => (if 0 < (a3.length : Int) then (laws_FnRGCuts.l0 k a3 0 ((rd_T23 a3 0).f0) ((rd_T23 a3 0).f1) ((rd_T23 a3 0).f0) ((rd_T23 a3 0).f1)) else (none)))))) = some r := h
 clear h
 replace H := Option.bind_eq_some_iff.mp H
 obtain ⟨⟨n6, n7⟩, A40, H⟩ := H
 replace H : ((laws_rgCut.f a1_0 a1_1).bind fun q5 => ((laws_rgCut.f a2_0 a2_1).bind fun n5 => ((some (([(⟨n6, n7⟩ : S23), (⟨q5.1, q5.2⟩ : S23), (⟨n5.1, n5.2⟩ : S23)] : List (S23)) : List (S23))).bind fun a3 => (if 0 < (a3.length : Int) then (laws_FnRGCuts.l0 k a3 0 ((rd_T23 a3 0).f0) ((rd_T23 a3 0).f1) ((rd_T23 a3 0).f0) ((rd_T23 a3 0).f1)) else (none))))) = some r := H
 have A4 := aM A40
 clear A40
 replace H := Option.bind_eq_some_iff.mp H
 obtain ⟨⟨o4, o5⟩, A50, H⟩ := H
 replace H : ((laws_rgCut.f a2_0 a2_1).bind fun n5 => ((some (([(⟨n6, n7⟩ : S23), (⟨o4, o5⟩ : S23), (⟨n5.1, n5.2⟩ : S23)] : List (S23)) : List (S23))).bind fun a3 => (if 0 < (a3.length : Int) then (laws_FnRGCuts.l0 k a3 0 ((rd_T23 a3 0).f0) ((rd_T23 a3 0).f1) ((rd_T23 a3 0).f0) ((rd_T23 a3 0).f1)) else (none)))) = some r := H
 have A5 := aM A50
 clear A50
 replace H := Option.bind_eq_some_iff.mp H
 obtain ⟨⟨o8, o9⟩, A60, H⟩ := H
 replace H : ((some (([(⟨n6, n7⟩ : S23), (⟨o4, o5⟩ : S23), (⟨o8, o9⟩ : S23)] : List (S23)) : List (S23))).bind fun a3 => (if 0 < (a3.length : Int) then (laws_FnRGCuts.l0 k a3 0 ((rd_T23 a3 0).f0) ((rd_T23 a3 0).f1) ((rd_T23 a3 0).f0) ((rd_T23 a3 0).f1)) else (none))) = some r := H
 have A6 := aM A60
 clear A60
 obtain ⟨a3, q6⟩ : ∃ y_ : List (S23), y_ = (([(⟨n6, n7⟩ : S23), (⟨o4, o5⟩ : S23), (⟨o8, o9⟩ : S23)] : List (S23))) := ⟨_, rfl⟩
 replace H : (if 0 < (a3.length : Int) then (laws_FnRGCuts.l0 k a3 0 ((rd_T23 a3 0).f0) ((rd_T23 a3 0).f1) ((rd_T23 a3 0).f0) ((rd_T23 a3 0).f1)) else (none)) = some r := by first | (rw [q6]; with_reducible exact H) | (have H2_ := (Option.bind_some _ _).symm.trans H; rw [q6]; with_reducible exact H2_) | (have H2_ := (Option.bind_some _ _).symm.trans H; with_reducible exact H2_) | with_reducible exact H | (rw [q6]; exact H) | exact H
 have v8 := aM q6
 clear q6
 by_cases c7 : 0 < (a3.length : Int)
 ·rw [if_pos c7] at H
  have c7b0 : decide (0 < (a3.length : Int)) = true := decide_eq_true c7
  have c7b1 : decide (0 < a3.length) = true := decide_eq_true (by omega)
  clear c7
  have H' := aM H
  clear H
  go_enter Tryd.func3, Tryd.ntmps3
  try go_wp2_with (first | ((with_reducible refine gate_dst (N := 3) rfl ?_); refine box_event ?hg (N := 3) ?hd (cs := #[.int .i64 a0_0, .int .i64 a0_1]) (t := 23) ?hr ?_; (case hd => rfl); (case hg => rfl); (case hr => first | (go_simp; done) | (go_simp; rfl)); intro b4 hg w8 hbox hb; have n0_ := aM (wP (by repeat (first | (with_reducible first | exact HB.out | apply wA | apply wN | apply wD) | exact HB.out)) hb); have n1_ := aM (hbox); have n2_ := aM ((by rw [hg]; exact (below_size (by repeat (first | (with_reducible first | exact HB.out | apply wA | apply wN | apply wD) | exact HB.out))) : w.heap.size ≤ b4)); have n3_ := aM ((by rw [hg]; exact (below_size (by repeat (first | (with_reducible first | exact HB.out | apply wA | apply wN | apply wD) | exact HB.out))) : w.heap.size ≤ b4)); clear HB; have HB := n0_; have a0 := n1_; have ao_ := n2_; have c4 := n3_; clear n0_ n1_ n2_ n3_; clear hb hbox hg) | ((with_reducible refine gate_dst (N := 4) rfl ?_); refine box_event ?hg (N := 4) ?hd (cs := #[.int .i64 a1_0, .int .i64 a1_1]) (t := 23) ?hr ?_; (case hd => rfl); (case hg => rfl); (case hr => first | (go_simp; done) | (go_simp; rfl)); intro b5 hg w9 hbox hb; have n0_ := aM (bB (g := b4) (o := .cells #[.int .i64 a0_0, .int .i64 a0_1] 23 (0, 0)) (by (with_reducible repeat (first | refine bN ?_ _ | refine bD ?_ | refine bA ?_ _)); exact a0.out) hb); have n1_ := aM (wP (by repeat (first | (with_reducible first | exact HB.out | apply wA | apply wN | apply wD | refine wS ?_ c4.out) | exact HB.out)) hb); have n2_ := aM (hbox); have n3_ := aM ((by rw [hg]; exact (below_size (by repeat (first | (with_reducible first | exact HB.out | apply wA | apply wN | apply wD | refine wS ?_ c4.out) | exact HB.out))) : w.heap.size ≤ b5)); have n4_ := aM ((by rw [hg]; exact (below_size (by repeat (first | (with_reducible first | exact HB.out | apply wA | apply wN | apply wD | refine wS ?_ c4.out) | exact HB.out))) : w.heap.size ≤ b5)); have n5_ := aM ((by rw [hg]; exact Nat.ne_of_lt (bL (g := b4) (o := .cells #[.int .i64 a0_0, .int .i64 a0_1] 23 (0, 0)) (by (with_reducible repeat (first | refine bN ?_ _ | refine bD ?_ | refine bA ?_ _)); exact a0.out)) : b4 ≠ b5)); have n6_ := aM ((by rw [hg]; exact Nat.ne_of_gt (bL (g := b4) (o := .cells #[.int .i64 a0_0, .int .i64 a0_1] 23 (0, 0)) (by (with_reducible repeat (first | refine bN ?_ _ | refine bD ?_ | refine bA ?_ _)); exact a0.out)) : b5 ≠ b4)); clear a0; clear HB; have a0 := n0_; have HB := n1_; have a1 := n2_; have ap_ := n3_; have c8 := n4_; have C7 := n5_; have C8 := n6_; clear n0_ n1_ n2_ n3_ n4_ n5_ n6_; clear hb hbox hg) | ((with_reducible refine gate_dst (N := 5) rfl ?_); refine box_event ?hg (N := 5) ?hd (cs := #[.int .i64 a2_0, .int .i64 a2_1]) (t := 23) ?hr ?_; (case hd => rfl); (case hg => rfl); (case hr => first | (go_simp; done) | (go_simp; rfl)); intro b7 hg w10 hbox hb; have n0_ := aM (bB (g := b4) (o := .cells #[.int .i64 a0_0, .int .i64 a0_1] 23 (0, 0)) (by (with_reducible repeat (first | refine bN ?_ _ | refine bD ?_ | refine bA ?_ _)); exact a0.out) hb); have n1_ := aM (bB (g := b5) (o := .cells #[.int .i64 a1_0, .int .i64 a1_1] 23 (0, 0)) (by (with_reducible repeat (first | refine bN ?_ _ | refine bD ?_ | refine bA ?_ _)); exact a1.out) hb); have n2_ := aM (wP (by repeat (first | (with_reducible first | exact HB.out | apply wA | apply wN | apply wD | refine wS ?_ c4.out | refine wS ?_ c8.out) | exact HB.out)) hb); have n3_ := aM (hbox); have n4_ := aM ((by rw [hg]; exact (below_size (by repeat (first | (with_reducible first | exact HB.out | apply wA | apply wN | apply wD | refine wS ?_ c4.out | refine wS ?_ c8.out) | exact HB.out))) : w.heap.size ≤ b7)); have n5_ := aM ((by rw [hg]; exact (below_size (by repeat (first | (with_reducible first | exact HB.out | apply wA | apply wN | apply wD | refine wS ?_ c4.out | refine wS ?_ c8.out) | exact HB.out))) : w.heap.size ≤ b7)); have n6_ := aM ((by rw [hg]; exact Nat.ne_of_lt (bL (g := b4) (o := .cells #[.int .i64 a0_0, .int .i64 a0_1] 23 (0, 0)) (by (with_reducible repeat (first | refine bN ?_ _ | refine bD ?_ | refine bA ?_ _)); exact a0.out)) : b4 ≠ b7)); have n7_ := aM ((by rw [hg]; exact Nat.ne_of_gt (bL (g := b4) (o := .cells #[.int .i64 a0_0, .int .i64 a0_1] 23 (0, 0)) (by (with_reducible repeat (first | refine bN ?_ _ | refine bD ?_ | refine bA ?_ _)); exact a0.out)) : b7 ≠ b4)); have n8_ := aM ((by rw [hg]; exact Nat.ne_of_lt (bL (g := b5) (o := .cells #[.int .i64 a1_0, .int .i64 a1_1] 23 (0, 0)) (by (with_reducible repeat (first | refine bN ?_ _ | refine bD ?_ | refine bA ?_ _)); exact a1.out)) : b5 ≠ b7)); have n9_ := aM ((by rw [hg]; exact Nat.ne_of_gt (bL (g := b5) (o := .cells #[.int .i64 a1_0, .int .i64 a1_1] 23 (0, 0)) (by (with_reducible repeat (first | refine bN ?_ _ | refine bD ?_ | refine bA ?_ _)); exact a1.out)) : b7 ≠ b5)); clear a0; clear a1; clear HB; have a0 := n0_; have a1 := n1_; have HB := n2_; have a2 := n3_; have aq_ := n4_; have c9 := n5_; have C9 := n6_; have D0 := n7_; have D1 := n8_; have D2 := n9_; clear n0_ n1_ n2_ n3_ n4_ n5_ n6_ n7_ n8_ n9_; clear hb hbox hg))
  have n0_ := aM (bD a0.out)
  have n1_ := aM (bD a1.out)
  have n2_ := aM (bD a2.out)
  have n3_ := aM (wD HB.out)
  clear a0
  clear a1
  clear a2
  clear HB
  have a0 := n0_
  have a1 := n1_
  have a2 := n2_
  have HB := n3_
  clear n0_ n1_ n2_ n3_
  refine start_ (n := 17) (S := fun w' => w'.cell? ⟨b4, 0, none⟩ = some (.int .i64 a0_0) ∧ w'.cell? ⟨b4, 1, none⟩ = some (.int .i64 a0_1) ∧ w'.cell? ⟨b5, 0, none⟩ = some (.int .i64 a1_0) ∧ w'.cell? ⟨b5, 1, none⟩ = some (.int .i64 a1_1) ∧ w'.cell? ⟨b7, 0, none⟩ = some (.int .i64 a2_0) ∧ w'.cell? ⟨b7, 1, none⟩ = some (.int .i64 a2_1)) (ds := []) #[false, false, false, false, false, false, false, false, false, false, false, false, false, false, false, false, false] (by kernel_rfl) rfl rfl ⟨(blk_cell a0.out 0).trans rfl, (blk_cell a0.out 1).trans rfl, (blk_cell a1.out 0).trans rfl, (blk_cell a1.out 1).trans rfl, (blk_cell a2.out 0).trans rfl, (blk_cell a2.out 1).trans rfl⟩ (fun hHeld => ?_); refine with_tabW laws_FnRGCuts.tab1 laws_FnRGCuts.bits1 (fun HT_ HW_ => ?_)
  generalize w10.drew = w11 at a0 a1 a2 HB hHeld ⊢
  refine pure_ (i := 0) (N := some 18) (v := ?_) (a' := ?_) #[true, false, false, false, false, false, false, false, false, false, false, false, false, false, false, false, false] rfl rfl (any_of HT_.out (by kernel_rfl)) (fun _ _ _ h => h) (Or.inl ⟨by rfl, ?_⟩) ?_ ?_
  rotate_left
  ·intro w'
   go_simp
   with_reducible rfl
  rotate_left
  ·simp only [Act.put, List.setIfInBounds_toArray, List.set_cons_zero, List.set_cons_succ, i64_w, i32_w]
   rfl
  refine pure_ (i := 2) (N := some 20) (v := ?_) (a' := ?_) #[true, false, true, false, false, false, false, false, false, false, false, false, false, false, false, false, false] rfl rfl (any_of HT_.out (by kernel_rfl)) (fun _ _ _ h => h) (Or.inl ⟨by rfl, ?_⟩) ?_ ?_
  rotate_left
  ·intro w'
   go_simp
   with_reducible rfl
  rotate_left
  ·simp only [Act.put, List.setIfInBounds_toArray, List.set_cons_zero, List.set_cons_succ, i64_w, i32_w]
   rfl
  refine pure_ (i := 5) (N := some 23) (v := ?_) (a' := ?_) #[true, false, true, false, false, true, false, false, false, false, false, false, false, false, false, false, false] rfl rfl (any_of HT_.out (by kernel_rfl)) (fun _ _ _ h => h) (Or.inl ⟨by rfl, ?_⟩) ?_ ?_
  rotate_left
  ·intro w'
   go_simp
   with_reducible rfl
  rotate_left
  ·simp only [Act.put, List.setIfInBounds_toArray, List.set_cons_zero, List.set_cons_succ, i64_w, i32_w]
   rfl
  refine pure_ (i := 7) (N := some 25) (v := ?_) (a' := ?_) #[true, false, true, false, false, true, false, true, false, false, false, false, false, false, false, false, false] rfl rfl (any_of HT_.out (by kernel_rfl)) (fun _ _ _ h => h) (Or.inl ⟨by rfl, ?_⟩) ?_ ?_
  rotate_left
  ·intro w'
   go_simp
   with_reducible rfl
  rotate_left
  ·simp only [Act.put, List.setIfInBounds_toArray, List.set_cons_zero, List.set_cons_succ, i64_w, i32_w]
   rfl
  refine pure_ (i := 10) (N := some 28) (v := ?_) (a' := ?_) #[true, false, true, false, false, true, false, true, false, false, true, false, false, false, false, false, false] rfl rfl (any_of HT_.out (by kernel_rfl)) (fun _ _ _ h => h) (Or.inl ⟨by rfl, ?_⟩) ?_ ?_
  rotate_left
  ·intro w'
   go_simp
   with_reducible rfl
  rotate_left
  ·simp only [Act.put, List.setIfInBounds_toArray, List.set_cons_zero, List.set_cons_succ, i64_w, i32_w]
   rfl
  refine pure_ (i := 12) (N := some 30) (v := ?_) (a' := ?_) #[true, false, true, false, false, true, false, true, false, false, true, false, true, false, false, false, false] rfl rfl (any_of HT_.out (by kernel_rfl)) (fun _ _ _ h => h) (Or.inl ⟨by rfl, ?_⟩) ?_ ?_
  rotate_left
  ·intro w'
   go_simp
   with_reducible rfl
  rotate_left
  ·simp only [Act.put, List.setIfInBounds_toArray, List.set_cons_zero, List.set_cons_succ, i64_w, i32_w]
   rfl
  refine take_ (i := 1) (N := some 19) (v := ?_) (a' := ?_) #[true, true, true, false, false, true, false, true, false, false, true, false, true, false, false, false, false] rfl rfl (take_ofW HT_.out HW_.out (by kernel_rfl)) (fun _ _ _ h => h) (Or.inl ⟨by rfl, ?_⟩) hHeld ?_ ?_
  rotate_left
  ·rintro w' ⟨s0, s1, s2, s3, s4, s5⟩
   go_simp
   with_reducible rfl
  rotate_left
  ·simp only [Act.put, List.setIfInBounds_toArray, List.set_cons_zero, List.set_cons_succ, i64_w, i32_w]
   rfl
  refine take_ (i := 3) (N := some 21) (v := ?_) (a' := ?_) #[true, true, true, true, false, true, false, true, false, false, true, false, true, false, false, false, false] rfl rfl (take_ofW HT_.out HW_.out (by kernel_rfl)) (fun _ _ _ h => h) (Or.inl ⟨by rfl, ?_⟩) hHeld ?_ ?_
  rotate_left
  ·rintro w' ⟨s0, s1, s2, s3, s4, s5⟩
   go_simp
   with_reducible rfl
  rotate_left
  ·simp only [Act.put, List.setIfInBounds_toArray, List.set_cons_zero, List.set_cons_succ, i64_w, i32_w]
   rfl
  refine take_ (i := 6) (N := some 24) (v := ?_) (a' := ?_) #[true, true, true, true, false, true, true, true, false, false, true, false, true, false, false, false, false] rfl rfl (take_ofW HT_.out HW_.out (by kernel_rfl)) (fun _ _ _ h => h) (Or.inl ⟨by rfl, ?_⟩) hHeld ?_ ?_
  rotate_left
  ·rintro w' ⟨s0, s1, s2, s3, s4, s5⟩
   go_simp
   with_reducible rfl
  rotate_left
  ·simp only [Act.put, List.setIfInBounds_toArray, List.set_cons_zero, List.set_cons_succ, i64_w, i32_w]
   rfl
  refine take_ (i := 8) (N := some 26) (v := ?_) (a' := ?_) #[true, true, true, true, false, true, true, true, true, false, true, false, true, false, false, false, false] rfl rfl (take_ofW HT_.out HW_.out (by kernel_rfl)) (fun _ _ _ h => h) (Or.inl ⟨by rfl, ?_⟩) hHeld ?_ ?_
  rotate_left
  ·rintro w' ⟨s0, s1, s2, s3, s4, s5⟩
   go_simp
   with_reducible rfl
  rotate_left
  ·simp only [Act.put, List.setIfInBounds_toArray, List.set_cons_zero, List.set_cons_succ, i64_w, i32_w]
   rfl
  refine take_ (i := 11) (N := some 29) (v := ?_) (a' := ?_) #[true, true, true, true, false, true, true, true, true, false, true, true, true, false, false, false, false] rfl rfl (take_ofW HT_.out HW_.out (by kernel_rfl)) (fun _ _ _ h => h) (Or.inl ⟨by rfl, ?_⟩) hHeld ?_ ?_
  rotate_left
  ·rintro w' ⟨s0, s1, s2, s3, s4, s5⟩
   go_simp
   with_reducible rfl
  rotate_left
  ·simp only [Act.put, List.setIfInBounds_toArray, List.set_cons_zero, List.set_cons_succ, i64_w, i32_w]
   rfl
  refine take_ (i := 13) (N := some 31) (v := ?_) (a' := ?_) #[true, true, true, true, false, true, true, true, true, false, true, true, true, true, false, false, false] rfl rfl (take_ofW HT_.out HW_.out (by kernel_rfl)) (fun _ _ _ h => h) (Or.inl ⟨by rfl, ?_⟩) hHeld ?_ ?_
  rotate_left
  ·rintro w' ⟨s0, s1, s2, s3, s4, s5⟩
   go_simp
   with_reducible rfl
  rotate_left
  ·simp only [Act.put, List.setIfInBounds_toArray, List.set_cons_zero, List.set_cons_succ, i64_w, i32_w]
   rfl
  refine one_ (i := 4) (N := some 22) #[true, true, true, true, true, true, true, true, true, false, true, true, true, true, false, false, false] rfl rfl (one_of HT_.out (by kernel_rfl)) (by decide) (fun K hK => ?_)
  refine goes_ Tryd.func10 (by kernel_rfl) rfl #[.int .i64 a0_0, .int .i64 a0_1] (by rfl) rfl rfl (by (try simp only [List.map_toArray, List.map_cons, List.map_nil]); first | done | rfl | (simp only [List.length_drop, List.length_take]; rfl)) ?_
  with_reducible refine (laws_rgCut.calls a0_0 a0_1 n6 n7 _ A4.out).mono ?_
  rintro e w12 ⟨rfl, hb⟩
  refine ⟨_, rfl, ?_⟩
  have n0_ := aM (bB (g := b4) (o := .cells #[.int .i64 a0_0, .int .i64 a0_1] 23 (0, 0)) (by (with_reducible repeat (first | refine bN ?_ _ | refine bD ?_ | refine bA ?_ _)); exact a0.out) hb)
  have n1_ := aM (bB (g := b5) (o := .cells #[.int .i64 a1_0, .int .i64 a1_1] 23 (0, 0)) (by (with_reducible repeat (first | refine bN ?_ _ | refine bD ?_ | refine bA ?_ _)); exact a1.out) hb)
  have n2_ := aM (bB (g := b7) (o := .cells #[.int .i64 a2_0, .int .i64 a2_1] 23 (0, 0)) (by (with_reducible repeat (first | refine bN ?_ _ | refine bD ?_ | refine bA ?_ _)); exact a2.out) hb)
  have n3_ := aM (wP (by repeat (first | (with_reducible first | exact HB.out | apply wA | apply wN | apply wD | refine wS ?_ c4.out | refine wS ?_ c8.out | refine wS ?_ c9.out) | exact HB.out)) hb)
  clear a0
  clear a1
  clear a2
  clear HB
  have a0 := n0_
  have a1 := n1_
  have a2 := n2_
  have HB := n3_
  clear n0_ n1_ n2_ n3_
  (try clear hb)
  (try clear hb2)
  (try clear hk)
  (try clear hi)
  refine hK.out _ _ ⟨(blk_cell a0.out 0).trans rfl, (blk_cell a0.out 1).trans rfl, (blk_cell a1.out 0).trans rfl, (blk_cell a1.out 1).trans rfl, (blk_cell a2.out 0).trans rfl, (blk_cell a2.out 1).trans rfl⟩ (fun hHeld => ?_)
  clear hK K
  refine norm_ (a' := ?_) ?_ ?_
  rotate_left
  ·show Act.put _ (some 22) _ = _
   simp only [Act.put, List.setIfInBounds_toArray, List.set_cons_zero, List.set_cons_succ, i64_w, i32_w]
   rfl
  refine one_ (i := 9) (N := some 27) #[true, true, true, true, true, true, true, true, true, true, true, true, true, true, false, false, false] rfl rfl (one_of HT_.out (by kernel_rfl)) (by decide) (fun K hK => ?_)
  refine goes_ Tryd.func10 (by kernel_rfl) rfl #[.int .i64 a1_0, .int .i64 a1_1] (by rfl) rfl rfl (by (try simp only [List.map_toArray, List.map_cons, List.map_nil]); first | done | rfl | (simp only [List.length_drop, List.length_take]; rfl)) ?_
  with_reducible refine (laws_rgCut.calls a1_0 a1_1 o4 o5 _ A5.out).mono ?_
  rintro e w13 ⟨rfl, hb⟩
  refine ⟨_, rfl, ?_⟩
  have n0_ := aM (bB (g := b4) (o := .cells #[.int .i64 a0_0, .int .i64 a0_1] 23 (0, 0)) (by (with_reducible repeat (first | refine bN ?_ _ | refine bD ?_ | refine bA ?_ _)); exact a0.out) hb)
  have n1_ := aM (bB (g := b5) (o := .cells #[.int .i64 a1_0, .int .i64 a1_1] 23 (0, 0)) (by (with_reducible repeat (first | refine bN ?_ _ | refine bD ?_ | refine bA ?_ _)); exact a1.out) hb)
  have n2_ := aM (bB (g := b7) (o := .cells #[.int .i64 a2_0, .int .i64 a2_1] 23 (0, 0)) (by (with_reducible repeat (first | refine bN ?_ _ | refine bD ?_ | refine bA ?_ _)); exact a2.out) hb)
  have n3_ := aM (wP (by repeat (first | (with_reducible first | exact HB.out | apply wA | apply wN | apply wD | refine wS ?_ c4.out | refine wS ?_ c8.out | refine wS ?_ c9.out) | exact HB.out)) hb)
  clear a0
  clear a1
  clear a2
  clear HB
  have a0 := n0_
  have a1 := n1_
  have a2 := n2_
  have HB := n3_
  clear n0_ n1_ n2_ n3_
  (try clear hb)
  (try clear hb2)
  (try clear hk)
  (try clear hi)
  refine hK.out _ _ ⟨(blk_cell a0.out 0).trans rfl, (blk_cell a0.out 1).trans rfl, (blk_cell a1.out 0).trans rfl, (blk_cell a1.out 1).trans rfl, (blk_cell a2.out 0).trans rfl, (blk_cell a2.out 1).trans rfl⟩ (fun hHeld => ?_)
  clear hK K
  refine norm_ (a' := ?_) ?_ ?_
  rotate_left
  ·show Act.put _ (some 27) _ = _
   simp only [Act.put, List.setIfInBounds_toArray, List.set_cons_zero, List.set_cons_succ, i64_w, i32_w]
   rfl
  refine one_ (i := 14) (N := some 32) #[true, true, true, true, true, true, true, true, true, true, true, true, true, true, true, false, false] rfl rfl (one_of HT_.out (by kernel_rfl)) (by decide) (fun K hK => ?_)
  refine goes_ Tryd.func10 (by kernel_rfl) rfl #[.int .i64 a2_0, .int .i64 a2_1] (by rfl) rfl rfl (by (try simp only [List.map_toArray, List.map_cons, List.map_nil]); first | done | rfl | (simp only [List.length_drop, List.length_take]; rfl)) ?_
  with_reducible refine (laws_rgCut.calls a2_0 a2_1 o8 o9 _ A6.out).mono ?_
  rintro e w14 ⟨rfl, hb⟩
  refine ⟨_, rfl, ?_⟩
  have n0_ := aM (bB (g := b4) (o := .cells #[.int .i64 a0_0, .int .i64 a0_1] 23 (0, 0)) (by (with_reducible repeat (first | refine bN ?_ _ | refine bD ?_ | refine bA ?_ _)); exact a0.out) hb)
  have n1_ := aM (bB (g := b5) (o := .cells #[.int .i64 a1_0, .int .i64 a1_1] 23 (0, 0)) (by (with_reducible repeat (first | refine bN ?_ _ | refine bD ?_ | refine bA ?_ _)); exact a1.out) hb)
  have n2_ := aM (bB (g := b7) (o := .cells #[.int .i64 a2_0, .int .i64 a2_1] 23 (0, 0)) (by (with_reducible repeat (first | refine bN ?_ _ | refine bD ?_ | refine bA ?_ _)); exact a2.out) hb)
  have n3_ := aM (wP (by repeat (first | (with_reducible first | exact HB.out | apply wA | apply wN | apply wD | refine wS ?_ c4.out | refine wS ?_ c8.out | refine wS ?_ c9.out) | exact HB.out)) hb)
  clear a0
  clear a1
  clear a2
  clear HB
  have a0 := n0_
  have a1 := n1_
  have a2 := n2_
  have HB := n3_
  clear n0_ n1_ n2_ n3_
  (try clear hb)
  (try clear hb2)
  (try clear hk)
  (try clear hi)
  refine hK.out _ _ ⟨(blk_cell a0.out 0).trans rfl, (blk_cell a0.out 1).trans rfl, (blk_cell a1.out 0).trans rfl, (blk_cell a1.out 1).trans rfl, (blk_cell a2.out 0).trans rfl, (blk_cell a2.out 1).trans rfl⟩ (fun hHeld => ?_)
  clear hK K
  refine norm_ (a' := ?_) ?_ ?_
  rotate_left
  ·show Act.put _ (some 32) _ = _
   simp only [Act.put, List.setIfInBounds_toArray, List.set_cons_zero, List.set_cons_succ, i64_w, i32_w]
   rfl
  refine one_ (i := 15) (N := some 33) #[true, true, true, true, true, true, true, true, true, true, true, true, true, true, true, true, false] rfl rfl (one_of HT_.out (by kernel_rfl)) (by decide) (fun K hK => ?_)
  refine Kd.R_lit_step k23 _ 23 ?hg (N := 33) ?hd (xs := ([(⟨n6, n7⟩ : S23), (⟨o4, o5⟩ : S23), (⟨o8, o9⟩ : S23)] : List (S23))) (inner := [.int .i64 n6, .int .i64 n7, .int .i64 o4, .int .i64 o5, .int .i64 o8, .int .i64 o9]) (ok := fun _ => True) (okp := fun _ => True) ?hr ?hp (fun _ hk => hk) trivial (Below.refl _ _) (Nat.le_refl _) (by simp) ?_; (case hd => rfl); (case hg => rfl); (case hr => first | (go_simp; done) | (go_simp; rfl)); (case hp => exact (Reps.c2 (show Kd.M k23 _ _ _ (⟨n6, n7⟩ : S23) [.int .i64 n6, .int .i64 n7] from (k23_mkM _ _ _ (⟨n6, n7⟩ : S23) )) (Reps.c2 (show Kd.M k23 _ _ _ (⟨o4, o5⟩ : S23) [.int .i64 o4, .int .i64 o5] from (k23_mkM _ _ _ (⟨o4, o5⟩ : S23) )) (Reps.c2 (show Kd.M k23 _ _ _ (⟨o8, o9⟩ : S23) [.int .i64 o8, .int .i64 o9] from (k23_mkM _ _ _ (⟨o8, o9⟩ : S23) )) (Reps.none _ _)))))
  intro bm_ w15 r5 hb hg_ hnew_
  clear hg_ hnew_
  (first | rw [← v8.out] at r5 | (simp only [Int.reduceToNat] at r5; rw [← v8.out] at r5))
  have n0_ := aM (Kd.R_lower (Kd.R_newB (Kd.R_newB (Kd.R_newB r5 (g := b4) (o := .cells #[.int .i64 a0_0, .int .i64 a0_1] 23 (0, 0)) (by (with_reducible repeat (first | refine bN ?_ _ | refine bD ?_ | refine bA ?_ _)); exact a0.out)) (g := b5) (o := .cells #[.int .i64 a1_0, .int .i64 a1_1] 23 (0, 0)) (by (with_reducible repeat (first | refine bN ?_ _ | refine bD ?_ | refine bA ?_ _)); exact a1.out)) (g := b7) (o := .cells #[.int .i64 a2_0, .int .i64 a2_1] 23 (0, 0)) (by (with_reducible repeat (first | refine bN ?_ _ | refine bD ?_ | refine bA ?_ _)); exact a2.out)) (below_size (by repeat (first | (with_reducible first | exact HB.out | apply wA | apply wN | apply wD | refine wS ?_ c4.out | refine wS ?_ c8.out | refine wS ?_ c9.out) | exact HB.out))))
  have n1_ := aM (bB (g := b4) (o := .cells #[.int .i64 a0_0, .int .i64 a0_1] 23 (0, 0)) (by (with_reducible repeat (first | refine bN ?_ _ | refine bD ?_ | refine bA ?_ _)); exact a0.out) hb)
  have n2_ := aM (bB (g := b5) (o := .cells #[.int .i64 a1_0, .int .i64 a1_1] 23 (0, 0)) (by (with_reducible repeat (first | refine bN ?_ _ | refine bD ?_ | refine bA ?_ _)); exact a1.out) hb)
  have n3_ := aM (bB (g := b7) (o := .cells #[.int .i64 a2_0, .int .i64 a2_1] 23 (0, 0)) (by (with_reducible repeat (first | refine bN ?_ _ | refine bD ?_ | refine bA ?_ _)); exact a2.out) hb)
  have n4_ := aM (wP (by repeat (first | (with_reducible first | exact HB.out | apply wA | apply wN | apply wD | refine wS ?_ c4.out | refine wS ?_ c8.out | refine wS ?_ c9.out) | exact HB.out)) hb)
  clear a0
  clear a1
  clear a2
  clear HB
  have b8 := n0_
  have a0 := n1_
  have a1 := n2_
  have a2 := n3_
  have HB := n4_
  clear n0_ n1_ n2_ n3_ n4_
  clear hb r5
  refine hK.out _ _ ⟨(blk_cell a0.out 0).trans rfl, (blk_cell a0.out 1).trans rfl, (blk_cell a1.out 0).trans rfl, (blk_cell a1.out 1).trans rfl, (blk_cell a2.out 0).trans rfl, (blk_cell a2.out 1).trans rfl⟩ (fun hHeld => ?_)
  clear hK K
  refine norm_ (a' := ?_) ?_ ?_
  rotate_left
  ·show Act.put _ (some 33) _ = _
   simp only [Act.put, List.setIfInBounds_toArray, List.set_cons_zero, List.set_cons_succ, i64_w, i32_w]
   rfl
  refine pure_ (i := 16) (N := some 7) (v := ?_) (a' := ?_) #[true, true, true, true, true, true, true, true, true, true, true, true, true, true, true, true, true] rfl rfl (any_of HT_.out (by kernel_rfl)) (fun _ _ _ h => h) (Or.inl ⟨by rfl, ?_⟩) ?_ ?_
  rotate_left
  ·intro w'
   go_simp
   with_reducible rfl
  rotate_left
  ·simp only [Act.put, List.setIfInBounds_toArray, List.set_cons_zero, List.set_cons_succ, i64_w, i32_w]
   rfl
  refine done_ (done_of HT_.out (by kernel_rfl)) ?_
  try go_wp2
  have n0_ := aM (Kd.R_drew b8.out)
  have n1_ := aM (bD a0.out)
  have n2_ := aM (bD a1.out)
  have n3_ := aM (bD a2.out)
  have n4_ := aM (wD HB.out)
  clear b8
  clear a0
  clear a1
  clear a2
  clear HB
  have b8 := n0_
  have a0 := n1_
  have a1 := n2_
  have a2 := n3_
  have HB := n4_
  clear n0_ n1_ n2_ n3_ n4_
  obtain ⟨bn_, h6, x5⟩ := Kd.R_slice b8.out
  (first | subst x5 | (injection x5 with f1_ f2_ f3_; have f4_ := f1_.symm; have f5_ := f3_.symm; clear f1_ f2_ f3_; subst f4_; subst f5_))
  have r6 : 0 ≤ (0 : Int) := (by omega)
  have r7 : 0 < (a3.length : Int) := of_decide_eq_true (by first | (with_reducible assumption) | assumption)
  obtain ⟨b9, D3, m7, m8⟩ := at_T23 (Kd.R_reads' b8.out).2.2 0 r6 r7
  cases D3
  have ar_ : (0 < a3.length) = True := eq_true (by omega)
  (try rw [show ((0 : Int)).toNat = 0 from rfl] at m7)
  (try rw [show 0 * 2 = 0 from rfl] at m7)
  (try rw [Addr.add_zero'] at m7)
  (try rw [show ((0 : Int)).toNat = 0 from rfl] at m8)
  (try rw [show 0 * 2 = 0 from rfl] at m8)
  (try rw [Addr.add_zero'] at m8)
  replace r6 := eq_true r6
  replace r7 := eq_true r7
  have r8 : 0 ≤ (0 : Int) := (by omega)
  have r9 : 0 < (a3.length : Int) := of_decide_eq_true (by first | (with_reducible assumption) | assumption)
  obtain ⟨C3, D4, m9, n0⟩ := at_T23 (Kd.R_reads' b8.out).2.2 0 r8 r9
  obtain rfl : b9 = C3 := (by injection D4)
  have as_ : (0 < a3.length) = True := eq_true (by omega)
  (try rw [show ((0 : Int)).toNat = 0 from rfl] at m9)
  (try rw [show 0 * 2 = 0 from rfl] at m9)
  (try rw [Addr.add_zero'] at m9)
  (try rw [show ((0 : Int)).toNat = 0 from rfl] at n0)
  (try rw [show 0 * 2 = 0 from rfl] at n0)
  (try rw [Addr.add_zero'] at n0)
  replace r8 := eq_true r8
  replace r9 := eq_true r9
  refine start_ (n := 10) (S := fun w' => w'.cell? b9 = some (.int .i64 ((rd_T23 a3 0).f0)) ∧ w'.cell? ⟨b9.block, b9.off + 1, none⟩ = some (.int .i64 ((rd_T23 a3 0).f1)) ∧ w'.cell? b9 = some (.int .i64 ((rd_T23 a3 0).f0)) ∧ w'.cell? ⟨b9.block, b9.off + 1, none⟩ = some (.int .i64 ((rd_T23 a3 0).f1))) (ds := []) #[false, false, false, false, false, false, false, false, false, false] (by kernel_rfl) rfl rfl ⟨m7, m8, m9, n0⟩ (fun hHeld => ?_); refine with_tabW laws_FnRGCuts.tab2 laws_FnRGCuts.bits2 (fun HT_ HW_ => ?_)
  generalize w15.drew = w17 at b8 a0 a1 a2 HB m7 m8 m9 n0 hHeld ⊢
  refine pure_ (i := 0) (N := some 34) (v := ?_) (a' := ?_) #[true, false, false, false, false, false, false, false, false, false] rfl rfl (any_of HT_.out (by kernel_rfl)) (fun _ _ _ h => h) (Or.inl ⟨by rfl, ?_⟩) ?_ ?_
  rotate_left
  ·intro w'
   go_simp
   with_reducible rfl
  rotate_left
  ·simp only [Act.put, List.setIfInBounds_toArray, List.set_cons_zero, List.set_cons_succ, i64_w, i32_w]
   rfl
  refine pure_ (i := 1) (N := some 35) (v := ?_) (a' := ?_) #[true, true, false, false, false, false, false, false, false, false] rfl rfl (any_of HT_.out (by kernel_rfl)) (fun _ _ _ h => h) (Or.inl ⟨by rfl, ?_⟩) ?_ ?_
  rotate_left
  ·intro w'
   go_simp
   with_reducible rfl
  rotate_left
  ·simp only [Act.put, List.setIfInBounds_toArray, List.set_cons_zero, List.set_cons_succ, i64_w, i32_w]
   rfl
  refine pure_ (i := 3) (N := some 37) (v := ?_) (a' := ?_) #[true, true, false, true, false, false, false, false, false, false] rfl rfl (any_of HT_.out (by kernel_rfl)) (fun _ _ _ h => h) (Or.inl ⟨by rfl, ?_⟩) ?_ ?_
  rotate_left
  ·intro w'
   go_simp
   with_reducible rfl
  rotate_left
  ·simp only [Act.put, List.setIfInBounds_toArray, List.set_cons_zero, List.set_cons_succ, i64_w, i32_w]
   rfl
  refine pure_ (i := 4) (N := some 38) (v := ?_) (a' := ?_) #[true, true, false, true, true, false, false, false, false, false] rfl rfl (any_of HT_.out (by kernel_rfl)) (fun _ _ _ h => h) (Or.inl ⟨by rfl, ?_⟩) ?_ ?_
  rotate_left
  ·intro w'
   go_simp
   with_reducible rfl
  rotate_left
  ·simp only [Act.put, List.setIfInBounds_toArray, List.set_cons_zero, List.set_cons_succ, i64_w, i32_w]
   rfl
  refine take_ (i := 2) (N := some 36) (v := ?_) (a' := ?_) #[true, true, true, true, true, false, false, false, false, false] rfl rfl (take_ofW HT_.out HW_.out (by kernel_rfl)) (fun _ _ _ h => h) (Or.inl ⟨by rfl, ?_⟩) hHeld ?_ ?_
  rotate_left
  ·rintro w' ⟨s0, s1, s2, s3⟩
   go_simp
   with_reducible rfl
  rotate_left
  ·simp only [Act.put, List.setIfInBounds_toArray, List.set_cons_zero, List.set_cons_succ, i64_w, i32_w]
   rfl
  refine take_ (i := 5) (N := some 39) (v := ?_) (a' := ?_) #[true, true, true, true, true, true, false, false, false, false] rfl rfl (take_ofW HT_.out HW_.out (by kernel_rfl)) (fun _ _ _ h => h) (Or.inl ⟨by rfl, ?_⟩) hHeld ?_ ?_
  rotate_left
  ·rintro w' ⟨s0, s1, s2, s3⟩
   go_simp
   with_reducible rfl
  rotate_left
  ·simp only [Act.put, List.setIfInBounds_toArray, List.set_cons_zero, List.set_cons_succ, i64_w, i32_w]
   rfl
  refine join_ (σ := Nat × Nat) 2 #[true, true, true, true, true, true, true, true, false, false] (fun s_ => [(8, .pointer (some ⟨s_.1, 0, none⟩)), (9, .pointer (some ⟨s_.2, 0, none⟩))]) (fun s_ w' => (w'.cell? b9 = some (.int .i64 ((rd_T23 a3 0).f0)) ∧ w'.cell? ⟨b9.block, b9.off + 1, none⟩ = some (.int .i64 ((rd_T23 a3 0).f1)) ∧ w'.cell? b9 = some (.int .i64 ((rd_T23 a3 0).f0)) ∧ w'.cell? ⟨b9.block, b9.off + 1, none⟩ = some (.int .i64 ((rd_T23 a3 0).f1))) ∧ (Kd.R k23 23 w' w.heap.size (fun k_ => k_ ≠ b4 ∧ k_ ≠ b5 ∧ k_ ≠ b7 ∧ k_ ≠ s_.1 ∧ k_ ≠ s_.2) (.slice (some b9) a3.length h6) a3) ∧ (w'.heap[b4]? = some (.cells #[.int .i64 a0_0, .int .i64 a0_1] 23 (0, 0))) ∧ (w'.heap[b5]? = some (.cells #[.int .i64 a1_0, .int .i64 a1_1] 23 (0, 0))) ∧ (w'.heap[b7]? = some (.cells #[.int .i64 a2_0, .int .i64 a2_1] 23 (0, 0))) ∧ (w'.heap[s_.1]? = some (.cells #[.int .i64 0, .int .i64 0] 23 (0, 0))) ∧ (w'.heap[s_.2]? = some (.cells #[.int .i64 0, .int .i64 0] 23 (0, 0))) ∧ (w.heap.size ≤ s_.1) ∧ (w.heap.size ≤ s_.1) ∧ (b4 ≠ s_.1) ∧ (s_.1 ≠ b4) ∧ (b5 ≠ s_.1) ∧ (s_.1 ≠ b5) ∧ (b7 ≠ s_.1) ∧ (s_.1 ≠ b7) ∧ (s_.2 ≠ s_.1) ∧ (s_.1 ≠ s_.2) ∧ (w.heap.size ≤ s_.2) ∧ (w.heap.size ≤ s_.2) ∧ (b4 ≠ s_.2) ∧ (s_.2 ≠ b4) ∧ (b5 ≠ s_.2) ∧ (s_.2 ≠ b5) ∧ (b7 ≠ s_.2) ∧ (s_.2 ≠ b7) ∧ (Below w.heap.size w w')) ?_ ?_
  rotate_left
  ·intro hCont
   refine two_ (i := 6) (j := 7) (Ni := some 8) (Nj := some 9) #[true, true, true, true, true, true, true, false, false, false] #[true, true, true, true, true, true, false, true, false, false] rfl rfl rfl rfl (two_of HT_.out (by kernel_rfl)) (by decide) (by decide) (fun K hK => ?_) (fun K hK => ?_)
   ·skip
    refine box_step ?hg (N := 8) ?hd (cs := #[.int .i64 0, .int .i64 0]) (t := 23) ?hr ?_; (case hd => rfl); (case hg => rfl); (case hr => first | (go_simp; done) | (go_simp; rfl))
    intro b0 hg w19 hbox hb
    have h0 := (hb.cell (World.block_lt_of_cell? _ _ (hHeld.1))).trans (hHeld.1)
    have h1 := (hb.cell (World.block_lt_of_cell? _ _ (hHeld.2.1))).trans (hHeld.2.1)
    have e9 := (hb.cell (World.block_lt_of_cell? _ _ (hHeld.2.2.1))).trans (hHeld.2.2.1)
    have f2 := (hb.cell (World.block_lt_of_cell? _ _ (hHeld.2.2.2))).trans (hHeld.2.2.2)
    have n0_ := aM (Kd.R_below (Kd.R_elderB (by (with_reducible repeat (first | apply Kd.R_alloc | apply Kd.R_drewN | apply Kd.R_drew)); exact b8.out) b0 (Nat.le_of_eq hg.symm)) hb)
    have n1_ := aM (bB (g := b4) (o := .cells #[.int .i64 a0_0, .int .i64 a0_1] 23 (0, 0)) (by (with_reducible repeat (first | refine bN ?_ _ | refine bD ?_ | refine bA ?_ _)); exact a0.out) hb)
    have n2_ := aM (bB (g := b5) (o := .cells #[.int .i64 a1_0, .int .i64 a1_1] 23 (0, 0)) (by (with_reducible repeat (first | refine bN ?_ _ | refine bD ?_ | refine bA ?_ _)); exact a1.out) hb)
    have n3_ := aM (bB (g := b7) (o := .cells #[.int .i64 a2_0, .int .i64 a2_1] 23 (0, 0)) (by (with_reducible repeat (first | refine bN ?_ _ | refine bD ?_ | refine bA ?_ _)); exact a2.out) hb)
    have n4_ := aM (wP (by repeat (first | (with_reducible first | exact HB.out | apply wA | apply wN | apply wD | refine wS ?_ c4.out | refine wS ?_ c8.out | refine wS ?_ c9.out) | exact HB.out)) hb)
    have n5_ := aM (hbox)
    have n6_ := aM ((by rw [hg]; exact (below_size (by repeat (first | (with_reducible first | exact HB.out | apply wA | apply wN | apply wD | refine wS ?_ c4.out | refine wS ?_ c8.out | refine wS ?_ c9.out) | exact HB.out))) : w.heap.size ≤ b0))
    have n7_ := aM ((by rw [hg]; exact (below_size (by repeat (first | (with_reducible first | exact HB.out | apply wA | apply wN | apply wD | refine wS ?_ c4.out | refine wS ?_ c8.out | refine wS ?_ c9.out) | exact HB.out))) : w.heap.size ≤ b0))
    have n8_ := aM ((by rw [hg]; exact Nat.ne_of_lt (bL (g := b4) (o := .cells #[.int .i64 a0_0, .int .i64 a0_1] 23 (0, 0)) (by (with_reducible repeat (first | refine bN ?_ _ | refine bD ?_ | refine bA ?_ _)); exact a0.out)) : b4 ≠ b0))
    have n9_ := aM ((by rw [hg]; exact Nat.ne_of_gt (bL (g := b4) (o := .cells #[.int .i64 a0_0, .int .i64 a0_1] 23 (0, 0)) (by (with_reducible repeat (first | refine bN ?_ _ | refine bD ?_ | refine bA ?_ _)); exact a0.out)) : b0 ≠ b4))
    have d6 := aM ((by rw [hg]; exact Nat.ne_of_lt (bL (g := b5) (o := .cells #[.int .i64 a1_0, .int .i64 a1_1] 23 (0, 0)) (by (with_reducible repeat (first | refine bN ?_ _ | refine bD ?_ | refine bA ?_ _)); exact a1.out)) : b5 ≠ b0))
    have d7 := aM ((by rw [hg]; exact Nat.ne_of_gt (bL (g := b5) (o := .cells #[.int .i64 a1_0, .int .i64 a1_1] 23 (0, 0)) (by (with_reducible repeat (first | refine bN ?_ _ | refine bD ?_ | refine bA ?_ _)); exact a1.out)) : b0 ≠ b5))
    have d8 := aM ((by rw [hg]; exact Nat.ne_of_lt (bL (g := b7) (o := .cells #[.int .i64 a2_0, .int .i64 a2_1] 23 (0, 0)) (by (with_reducible repeat (first | refine bN ?_ _ | refine bD ?_ | refine bA ?_ _)); exact a2.out)) : b7 ≠ b0))
    have d9 := aM ((by rw [hg]; exact Nat.ne_of_gt (bL (g := b7) (o := .cells #[.int .i64 a2_0, .int .i64 a2_1] 23 (0, 0)) (by (with_reducible repeat (first | refine bN ?_ _ | refine bD ?_ | refine bA ?_ _)); exact a2.out)) : b0 ≠ b7))
    clear b8
    clear a0
    clear a1
    clear a2
    clear HB
    have b8 := n0_
    have a0 := n1_
    have a1 := n2_
    have a2 := n3_
    have HB := n4_
    have a5 := n5_
    have r3 := n6_
    have d1 := n7_
    have f6 := n8_
    have g7 := n9_
    have f7 := d6
    have g8 := d7
    have f8 := d8
    have g9 := d9
    clear n0_ n1_ n2_ n3_ n4_ n5_ n6_ n7_ n8_ n9_ d6 d7 d8 d9
    clear hb hbox hg
    refine hK.out _ _ ⟨h0, h1, e9, f2⟩ (fun hHeld => ?_)
    clear hK K
    refine norm_ (a' := ?_) ?_ ?_
    rotate_left
    ·show Act.put _ (some 8) _ = _
     simp only [Act.put, List.setIfInBounds_toArray, List.set_cons_zero, List.set_cons_succ, i64_w, i32_w]
     rfl
    refine one_ (i := 7) (N := some 9) #[true, true, true, true, true, true, true, true, false, false] rfl rfl (one_of HT_.out (by kernel_rfl)) (by decide) (fun K hK => ?_)
    refine box_step ?hg (N := 9) ?hd (cs := #[.int .i64 0, .int .i64 0]) (t := 23) ?hr ?_; (case hd => rfl); (case hg => rfl); (case hr => first | (go_simp; done) | (go_simp; rfl))
    intro b1 hg w20 hbox hb
    have h0 := (hb.cell (World.block_lt_of_cell? _ _ (hHeld.1))).trans (hHeld.1)
    have h1 := (hb.cell (World.block_lt_of_cell? _ _ (hHeld.2.1))).trans (hHeld.2.1)
    have e9 := (hb.cell (World.block_lt_of_cell? _ _ (hHeld.2.2.1))).trans (hHeld.2.2.1)
    have f2 := (hb.cell (World.block_lt_of_cell? _ _ (hHeld.2.2.2))).trans (hHeld.2.2.2)
    have n0_ := aM (Kd.R_below (Kd.R_elderB (by (with_reducible repeat (first | apply Kd.R_alloc | apply Kd.R_drewN | apply Kd.R_drew)); exact b8.out) b1 (Nat.le_of_eq hg.symm)) hb)
    have n1_ := aM (bB (g := b4) (o := .cells #[.int .i64 a0_0, .int .i64 a0_1] 23 (0, 0)) (by (with_reducible repeat (first | refine bN ?_ _ | refine bD ?_ | refine bA ?_ _)); exact a0.out) hb)
    have n2_ := aM (bB (g := b5) (o := .cells #[.int .i64 a1_0, .int .i64 a1_1] 23 (0, 0)) (by (with_reducible repeat (first | refine bN ?_ _ | refine bD ?_ | refine bA ?_ _)); exact a1.out) hb)
    have n3_ := aM (bB (g := b7) (o := .cells #[.int .i64 a2_0, .int .i64 a2_1] 23 (0, 0)) (by (with_reducible repeat (first | refine bN ?_ _ | refine bD ?_ | refine bA ?_ _)); exact a2.out) hb)
    have n4_ := aM (bB (g := b0) (o := .cells #[.int .i64 0, .int .i64 0] 23 (0, 0)) (by (with_reducible repeat (first | refine bN ?_ _ | refine bD ?_ | refine bA ?_ _)); exact a5.out) hb)
    have n5_ := aM (wP (by repeat (first | (with_reducible first | exact HB.out | apply wA | apply wN | apply wD | refine wS ?_ c4.out | refine wS ?_ c8.out | refine wS ?_ c9.out | refine wS ?_ d1.out) | exact HB.out)) hb)
    have n6_ := aM (hbox)
    have n7_ := aM ((by rw [hg]; exact (below_size (by repeat (first | (with_reducible first | exact HB.out | apply wA | apply wN | apply wD | refine wS ?_ c4.out | refine wS ?_ c8.out | refine wS ?_ c9.out | refine wS ?_ d1.out) | exact HB.out))) : w.heap.size ≤ b1))
    have n8_ := aM ((by rw [hg]; exact (below_size (by repeat (first | (with_reducible first | exact HB.out | apply wA | apply wN | apply wD | refine wS ?_ c4.out | refine wS ?_ c8.out | refine wS ?_ c9.out | refine wS ?_ d1.out) | exact HB.out))) : w.heap.size ≤ b1))
    have n9_ := aM ((by rw [hg]; exact Nat.ne_of_lt (bL (g := b4) (o := .cells #[.int .i64 a0_0, .int .i64 a0_1] 23 (0, 0)) (by (with_reducible repeat (first | refine bN ?_ _ | refine bD ?_ | refine bA ?_ _)); exact a0.out)) : b4 ≠ b1))
    have d6 := aM ((by rw [hg]; exact Nat.ne_of_gt (bL (g := b4) (o := .cells #[.int .i64 a0_0, .int .i64 a0_1] 23 (0, 0)) (by (with_reducible repeat (first | refine bN ?_ _ | refine bD ?_ | refine bA ?_ _)); exact a0.out)) : b1 ≠ b4))
    have d7 := aM ((by rw [hg]; exact Nat.ne_of_lt (bL (g := b5) (o := .cells #[.int .i64 a1_0, .int .i64 a1_1] 23 (0, 0)) (by (with_reducible repeat (first | refine bN ?_ _ | refine bD ?_ | refine bA ?_ _)); exact a1.out)) : b5 ≠ b1))
    have d8 := aM ((by rw [hg]; exact Nat.ne_of_gt (bL (g := b5) (o := .cells #[.int .i64 a1_0, .int .i64 a1_1] 23 (0, 0)) (by (with_reducible repeat (first | refine bN ?_ _ | refine bD ?_ | refine bA ?_ _)); exact a1.out)) : b1 ≠ b5))
    have d9 := aM ((by rw [hg]; exact Nat.ne_of_lt (bL (g := b7) (o := .cells #[.int .i64 a2_0, .int .i64 a2_1] 23 (0, 0)) (by (with_reducible repeat (first | refine bN ?_ _ | refine bD ?_ | refine bA ?_ _)); exact a2.out)) : b7 ≠ b1))
    have f3 := aM ((by rw [hg]; exact Nat.ne_of_gt (bL (g := b7) (o := .cells #[.int .i64 a2_0, .int .i64 a2_1] 23 (0, 0)) (by (with_reducible repeat (first | refine bN ?_ _ | refine bD ?_ | refine bA ?_ _)); exact a2.out)) : b1 ≠ b7))
    have f4 := aM ((by rw [hg]; exact Nat.ne_of_lt (bL (g := b0) (o := .cells #[.int .i64 0, .int .i64 0] 23 (0, 0)) (by (with_reducible repeat (first | refine bN ?_ _ | refine bD ?_ | refine bA ?_ _)); exact a5.out)) : b0 ≠ b1))
    have f5 := aM ((by rw [hg]; exact Nat.ne_of_gt (bL (g := b0) (o := .cells #[.int .i64 0, .int .i64 0] 23 (0, 0)) (by (with_reducible repeat (first | refine bN ?_ _ | refine bD ?_ | refine bA ?_ _)); exact a5.out)) : b1 ≠ b0))
    clear b8
    clear a0
    clear a1
    clear a2
    clear a5
    clear HB
    have b8 := n0_
    have a0 := n1_
    have a1 := n2_
    have a2 := n3_
    have a5 := n4_
    have HB := n5_
    have a4 := n6_
    have r4 := n7_
    have d2 := n8_
    have g0 := n9_
    have h2 := d6
    have g1 := d7
    have h3 := d8
    have g2 := d9
    have h4 := f3
    have e0 := f4
    have e1 := f5
    clear n0_ n1_ n2_ n3_ n4_ n5_ n6_ n7_ n8_ n9_ d6 d7 d8 d9 f3 f4 f5
    clear hb hbox hg
    refine hK.out _ _ ⟨h0, h1, e9, f2⟩ (fun hHeld => ?_)
    clear hK K
    refine norm_ (a' := ?_) ?_ ?_
    rotate_left
    ·show Act.put _ (some 9) _ = _
     simp only [Act.put, List.setIfInBounds_toArray, List.set_cons_zero, List.set_cons_succ, i64_w, i32_w]
     rfl
    exact norm_ (by simp only [putAll, Act.put, List.setIfInBounds_toArray, List.set_cons_zero, List.set_cons_succ]) (hCont (b0, b1) _ ⟨hHeld, (by (with_reducible repeat (first | apply Kd.R_alloc | apply Kd.R_drewN | apply Kd.R_drew)); exact Kd.R_mono b8.out (fun _ hk => ⟨hk.1.1.1.1.2, ⟨hk.1.1.1.2, ⟨hk.1.1.2, ⟨hk.1.2, hk.2⟩⟩⟩⟩)), (by (with_reducible repeat (first | refine bN ?_ _ | refine bD ?_ | refine bA ?_ _)); exact a0.out), (by (with_reducible repeat (first | refine bN ?_ _ | refine bD ?_ | refine bA ?_ _)); exact a1.out), (by (with_reducible repeat (first | refine bN ?_ _ | refine bD ?_ | refine bA ?_ _)); exact a2.out), (by (with_reducible repeat (first | refine bN ?_ _ | refine bD ?_ | refine bA ?_ _)); exact a5.out), (by (with_reducible repeat (first | refine bN ?_ _ | refine bD ?_ | refine bA ?_ _)); exact a4.out), r3.out, d1.out, f6.out, g7.out, f7.out, g8.out, f8.out, g9.out, e1.out, e0.out, r4.out, d2.out, g0.out, h2.out, g1.out, h3.out, g2.out, h4.out, (by repeat (first | (with_reducible first | exact HB.out | apply wA | apply wN | apply wD | refine wS ?_ c4.out | refine wS ?_ c8.out | refine wS ?_ c9.out | refine wS ?_ d1.out | refine wS ?_ d2.out) | exact HB.out))⟩)
   ·skip
    refine box_step ?hg (N := 9) ?hd (cs := #[.int .i64 0, .int .i64 0]) (t := 23) ?hr ?_; (case hd => rfl); (case hg => rfl); (case hr => first | (go_simp; done) | (go_simp; rfl))
    intro b1 hg w19 hbox hb
    have h0 := (hb.cell (World.block_lt_of_cell? _ _ (hHeld.1))).trans (hHeld.1)
    have h1 := (hb.cell (World.block_lt_of_cell? _ _ (hHeld.2.1))).trans (hHeld.2.1)
    have e9 := (hb.cell (World.block_lt_of_cell? _ _ (hHeld.2.2.1))).trans (hHeld.2.2.1)
    have f2 := (hb.cell (World.block_lt_of_cell? _ _ (hHeld.2.2.2))).trans (hHeld.2.2.2)
    have n0_ := aM (Kd.R_below (Kd.R_elderB (by (with_reducible repeat (first | apply Kd.R_alloc | apply Kd.R_drewN | apply Kd.R_drew)); exact b8.out) b1 (Nat.le_of_eq hg.symm)) hb)
    have n1_ := aM (bB (g := b4) (o := .cells #[.int .i64 a0_0, .int .i64 a0_1] 23 (0, 0)) (by (with_reducible repeat (first | refine bN ?_ _ | refine bD ?_ | refine bA ?_ _)); exact a0.out) hb)
    have n2_ := aM (bB (g := b5) (o := .cells #[.int .i64 a1_0, .int .i64 a1_1] 23 (0, 0)) (by (with_reducible repeat (first | refine bN ?_ _ | refine bD ?_ | refine bA ?_ _)); exact a1.out) hb)
    have n3_ := aM (bB (g := b7) (o := .cells #[.int .i64 a2_0, .int .i64 a2_1] 23 (0, 0)) (by (with_reducible repeat (first | refine bN ?_ _ | refine bD ?_ | refine bA ?_ _)); exact a2.out) hb)
    have n4_ := aM (wP (by repeat (first | (with_reducible first | exact HB.out | apply wA | apply wN | apply wD | refine wS ?_ c4.out | refine wS ?_ c8.out | refine wS ?_ c9.out) | exact HB.out)) hb)
    have n5_ := aM (hbox)
    have n6_ := aM ((by rw [hg]; exact (below_size (by repeat (first | (with_reducible first | exact HB.out | apply wA | apply wN | apply wD | refine wS ?_ c4.out | refine wS ?_ c8.out | refine wS ?_ c9.out) | exact HB.out))) : w.heap.size ≤ b1))
    have n7_ := aM ((by rw [hg]; exact (below_size (by repeat (first | (with_reducible first | exact HB.out | apply wA | apply wN | apply wD | refine wS ?_ c4.out | refine wS ?_ c8.out | refine wS ?_ c9.out) | exact HB.out))) : w.heap.size ≤ b1))
    have n8_ := aM ((by rw [hg]; exact Nat.ne_of_lt (bL (g := b4) (o := .cells #[.int .i64 a0_0, .int .i64 a0_1] 23 (0, 0)) (by (with_reducible repeat (first | refine bN ?_ _ | refine bD ?_ | refine bA ?_ _)); exact a0.out)) : b4 ≠ b1))
    have n9_ := aM ((by rw [hg]; exact Nat.ne_of_gt (bL (g := b4) (o := .cells #[.int .i64 a0_0, .int .i64 a0_1] 23 (0, 0)) (by (with_reducible repeat (first | refine bN ?_ _ | refine bD ?_ | refine bA ?_ _)); exact a0.out)) : b1 ≠ b4))
    have d6 := aM ((by rw [hg]; exact Nat.ne_of_lt (bL (g := b5) (o := .cells #[.int .i64 a1_0, .int .i64 a1_1] 23 (0, 0)) (by (with_reducible repeat (first | refine bN ?_ _ | refine bD ?_ | refine bA ?_ _)); exact a1.out)) : b5 ≠ b1))
    have d7 := aM ((by rw [hg]; exact Nat.ne_of_gt (bL (g := b5) (o := .cells #[.int .i64 a1_0, .int .i64 a1_1] 23 (0, 0)) (by (with_reducible repeat (first | refine bN ?_ _ | refine bD ?_ | refine bA ?_ _)); exact a1.out)) : b1 ≠ b5))
    have d8 := aM ((by rw [hg]; exact Nat.ne_of_lt (bL (g := b7) (o := .cells #[.int .i64 a2_0, .int .i64 a2_1] 23 (0, 0)) (by (with_reducible repeat (first | refine bN ?_ _ | refine bD ?_ | refine bA ?_ _)); exact a2.out)) : b7 ≠ b1))
    have d9 := aM ((by rw [hg]; exact Nat.ne_of_gt (bL (g := b7) (o := .cells #[.int .i64 a2_0, .int .i64 a2_1] 23 (0, 0)) (by (with_reducible repeat (first | refine bN ?_ _ | refine bD ?_ | refine bA ?_ _)); exact a2.out)) : b1 ≠ b7))
    clear b8
    clear a0
    clear a1
    clear a2
    clear HB
    have b8 := n0_
    have a0 := n1_
    have a1 := n2_
    have a2 := n3_
    have HB := n4_
    have a4 := n5_
    have r4 := n6_
    have d2 := n7_
    have g0 := n8_
    have h2 := n9_
    have g1 := d6
    have h3 := d7
    have g2 := d8
    have h4 := d9
    clear n0_ n1_ n2_ n3_ n4_ n5_ n6_ n7_ n8_ n9_ d6 d7 d8 d9
    clear hb hbox hg
    refine hK.out _ _ ⟨h0, h1, e9, f2⟩ (fun hHeld => ?_)
    clear hK K
    refine norm_ (a' := ?_) ?_ ?_
    rotate_left
    ·show Act.put _ (some 9) _ = _
     simp only [Act.put, List.setIfInBounds_toArray, List.set_cons_zero, List.set_cons_succ, i64_w, i32_w]
     rfl
    refine one_ (i := 6) (N := some 8) #[true, true, true, true, true, true, true, true, false, false] rfl rfl (one_of HT_.out (by kernel_rfl)) (by decide) (fun K hK => ?_)
    refine box_step ?hg (N := 8) ?hd (cs := #[.int .i64 0, .int .i64 0]) (t := 23) ?hr ?_; (case hd => rfl); (case hg => rfl); (case hr => first | (go_simp; done) | (go_simp; rfl))
    intro b0 hg w20 hbox hb
    have h0 := (hb.cell (World.block_lt_of_cell? _ _ (hHeld.1))).trans (hHeld.1)
    have h1 := (hb.cell (World.block_lt_of_cell? _ _ (hHeld.2.1))).trans (hHeld.2.1)
    have e9 := (hb.cell (World.block_lt_of_cell? _ _ (hHeld.2.2.1))).trans (hHeld.2.2.1)
    have f2 := (hb.cell (World.block_lt_of_cell? _ _ (hHeld.2.2.2))).trans (hHeld.2.2.2)
    have n0_ := aM (Kd.R_below (Kd.R_elderB (by (with_reducible repeat (first | apply Kd.R_alloc | apply Kd.R_drewN | apply Kd.R_drew)); exact b8.out) b0 (Nat.le_of_eq hg.symm)) hb)
    have n1_ := aM (bB (g := b4) (o := .cells #[.int .i64 a0_0, .int .i64 a0_1] 23 (0, 0)) (by (with_reducible repeat (first | refine bN ?_ _ | refine bD ?_ | refine bA ?_ _)); exact a0.out) hb)
    have n2_ := aM (bB (g := b5) (o := .cells #[.int .i64 a1_0, .int .i64 a1_1] 23 (0, 0)) (by (with_reducible repeat (first | refine bN ?_ _ | refine bD ?_ | refine bA ?_ _)); exact a1.out) hb)
    have n3_ := aM (bB (g := b7) (o := .cells #[.int .i64 a2_0, .int .i64 a2_1] 23 (0, 0)) (by (with_reducible repeat (first | refine bN ?_ _ | refine bD ?_ | refine bA ?_ _)); exact a2.out) hb)
    have n4_ := aM (bB (g := b1) (o := .cells #[.int .i64 0, .int .i64 0] 23 (0, 0)) (by (with_reducible repeat (first | refine bN ?_ _ | refine bD ?_ | refine bA ?_ _)); exact a4.out) hb)
    have n5_ := aM (wP (by repeat (first | (with_reducible first | exact HB.out | apply wA | apply wN | apply wD | refine wS ?_ c4.out | refine wS ?_ c8.out | refine wS ?_ c9.out | refine wS ?_ d2.out) | exact HB.out)) hb)
    have n6_ := aM (hbox)
    have n7_ := aM ((by rw [hg]; exact (below_size (by repeat (first | (with_reducible first | exact HB.out | apply wA | apply wN | apply wD | refine wS ?_ c4.out | refine wS ?_ c8.out | refine wS ?_ c9.out | refine wS ?_ d2.out) | exact HB.out))) : w.heap.size ≤ b0))
    have n8_ := aM ((by rw [hg]; exact (below_size (by repeat (first | (with_reducible first | exact HB.out | apply wA | apply wN | apply wD | refine wS ?_ c4.out | refine wS ?_ c8.out | refine wS ?_ c9.out | refine wS ?_ d2.out) | exact HB.out))) : w.heap.size ≤ b0))
    have n9_ := aM ((by rw [hg]; exact Nat.ne_of_lt (bL (g := b4) (o := .cells #[.int .i64 a0_0, .int .i64 a0_1] 23 (0, 0)) (by (with_reducible repeat (first | refine bN ?_ _ | refine bD ?_ | refine bA ?_ _)); exact a0.out)) : b4 ≠ b0))
    have d6 := aM ((by rw [hg]; exact Nat.ne_of_gt (bL (g := b4) (o := .cells #[.int .i64 a0_0, .int .i64 a0_1] 23 (0, 0)) (by (with_reducible repeat (first | refine bN ?_ _ | refine bD ?_ | refine bA ?_ _)); exact a0.out)) : b0 ≠ b4))
    have d7 := aM ((by rw [hg]; exact Nat.ne_of_lt (bL (g := b5) (o := .cells #[.int .i64 a1_0, .int .i64 a1_1] 23 (0, 0)) (by (with_reducible repeat (first | refine bN ?_ _ | refine bD ?_ | refine bA ?_ _)); exact a1.out)) : b5 ≠ b0))
    have d8 := aM ((by rw [hg]; exact Nat.ne_of_gt (bL (g := b5) (o := .cells #[.int .i64 a1_0, .int .i64 a1_1] 23 (0, 0)) (by (with_reducible repeat (first | refine bN ?_ _ | refine bD ?_ | refine bA ?_ _)); exact a1.out)) : b0 ≠ b5))
    have d9 := aM ((by rw [hg]; exact Nat.ne_of_lt (bL (g := b7) (o := .cells #[.int .i64 a2_0, .int .i64 a2_1] 23 (0, 0)) (by (with_reducible repeat (first | refine bN ?_ _ | refine bD ?_ | refine bA ?_ _)); exact a2.out)) : b7 ≠ b0))
    have f3 := aM ((by rw [hg]; exact Nat.ne_of_gt (bL (g := b7) (o := .cells #[.int .i64 a2_0, .int .i64 a2_1] 23 (0, 0)) (by (with_reducible repeat (first | refine bN ?_ _ | refine bD ?_ | refine bA ?_ _)); exact a2.out)) : b0 ≠ b7))
    have f4 := aM ((by rw [hg]; exact Nat.ne_of_lt (bL (g := b1) (o := .cells #[.int .i64 0, .int .i64 0] 23 (0, 0)) (by (with_reducible repeat (first | refine bN ?_ _ | refine bD ?_ | refine bA ?_ _)); exact a4.out)) : b1 ≠ b0))
    have f5 := aM ((by rw [hg]; exact Nat.ne_of_gt (bL (g := b1) (o := .cells #[.int .i64 0, .int .i64 0] 23 (0, 0)) (by (with_reducible repeat (first | refine bN ?_ _ | refine bD ?_ | refine bA ?_ _)); exact a4.out)) : b0 ≠ b1))
    clear b8
    clear a0
    clear a1
    clear a2
    clear a4
    clear HB
    have b8 := n0_
    have a0 := n1_
    have a1 := n2_
    have a2 := n3_
    have a4 := n4_
    have HB := n5_
    have a5 := n6_
    have r3 := n7_
    have d1 := n8_
    have f6 := n9_
    have g7 := d6
    have f7 := d7
    have g8 := d8
    have f8 := d9
    have g9 := f3
    have e1 := f4
    have e0 := f5
    clear n0_ n1_ n2_ n3_ n4_ n5_ n6_ n7_ n8_ n9_ d6 d7 d8 d9 f3 f4 f5
    clear hb hbox hg
    refine hK.out _ _ ⟨h0, h1, e9, f2⟩ (fun hHeld => ?_)
    clear hK K
    refine norm_ (a' := ?_) ?_ ?_
    rotate_left
    ·show Act.put _ (some 8) _ = _
     simp only [Act.put, List.setIfInBounds_toArray, List.set_cons_zero, List.set_cons_succ, i64_w, i32_w]
     rfl
    exact norm_ (by simp only [putAll, Act.put, List.setIfInBounds_toArray, List.set_cons_zero, List.set_cons_succ]) (hCont (b0, b1) _ ⟨hHeld, (by (with_reducible repeat (first | apply Kd.R_alloc | apply Kd.R_drewN | apply Kd.R_drew)); exact Kd.R_mono b8.out (fun _ hk => ⟨hk.1.1.1.1.2, ⟨hk.1.1.1.2, ⟨hk.1.1.2, ⟨hk.2, hk.1.2⟩⟩⟩⟩)), (by (with_reducible repeat (first | refine bN ?_ _ | refine bD ?_ | refine bA ?_ _)); exact a0.out), (by (with_reducible repeat (first | refine bN ?_ _ | refine bD ?_ | refine bA ?_ _)); exact a1.out), (by (with_reducible repeat (first | refine bN ?_ _ | refine bD ?_ | refine bA ?_ _)); exact a2.out), (by (with_reducible repeat (first | refine bN ?_ _ | refine bD ?_ | refine bA ?_ _)); exact a5.out), (by (with_reducible repeat (first | refine bN ?_ _ | refine bD ?_ | refine bA ?_ _)); exact a4.out), r3.out, d1.out, f6.out, g7.out, f7.out, g8.out, f8.out, g9.out, e1.out, e0.out, r4.out, d2.out, g0.out, h2.out, g1.out, h3.out, g2.out, h4.out, (by repeat (first | (with_reducible first | exact HB.out | apply wA | apply wN | apply wD | refine wS ?_ c4.out | refine wS ?_ c8.out | refine wS ?_ c9.out | refine wS ?_ d2.out | refine wS ?_ d1.out) | exact HB.out))⟩)
  rintro ⟨b0, b1⟩ w21 ⟨hS_, h0_, h1_, h2_, h3_, h4_, h5_, h6_, h7_, h8_, h9_, x6, x7, x8, x9, y0, y1, y2, y3, y4, y5, y6, y7, y8, y9, A0⟩
  have n0_ : Aside0 (Kd.R k23 23 w21 w.heap.size (fun k_ => k_ ≠ b4 ∧ k_ ≠ b5 ∧ k_ ≠ b7 ∧ k_ ≠ b0 ∧ k_ ≠ b1) (.slice (some b9) a3.length h6) a3) := ⟨h0_⟩
  have n1_ : Aside0 (w21.heap[b4]? = some (.cells #[.int .i64 a0_0, .int .i64 a0_1] 23 (0, 0))) := ⟨h1_⟩
  have n2_ : Aside0 (w21.heap[b5]? = some (.cells #[.int .i64 a1_0, .int .i64 a1_1] 23 (0, 0))) := ⟨h2_⟩
  have n3_ : Aside0 (w21.heap[b7]? = some (.cells #[.int .i64 a2_0, .int .i64 a2_1] 23 (0, 0))) := ⟨h3_⟩
  have n4_ : Aside0 (w21.heap[b0]? = some (.cells #[.int .i64 0, .int .i64 0] 23 (0, 0))) := ⟨h4_⟩
  have n5_ : Aside0 (w21.heap[b1]? = some (.cells #[.int .i64 0, .int .i64 0] 23 (0, 0))) := ⟨h5_⟩
  have n6_ : Aside0 (w.heap.size ≤ b0) := ⟨h6_⟩
  have n7_ : Aside0 (w.heap.size ≤ b0) := ⟨h7_⟩
  have n8_ : Aside0 (b4 ≠ b0) := ⟨h8_⟩
  have n9_ : Aside0 (b0 ≠ b4) := ⟨h9_⟩
  have d6 : Aside0 (b5 ≠ b0) := ⟨x6⟩
  have d7 : Aside0 (b0 ≠ b5) := ⟨x7⟩
  have d8 : Aside0 (b7 ≠ b0) := ⟨x8⟩
  have d9 : Aside0 (b0 ≠ b7) := ⟨x9⟩
  have f3 : Aside0 (b1 ≠ b0) := ⟨y0⟩
  have f4 : Aside0 (b0 ≠ b1) := ⟨y1⟩
  have f5 : Aside0 (w.heap.size ≤ b1) := ⟨y2⟩
  have g3 : Aside0 (w.heap.size ≤ b1) := ⟨y3⟩
  have g4 : Aside0 (b4 ≠ b1) := ⟨y4⟩
  have g5 : Aside0 (b1 ≠ b4) := ⟨y5⟩
  have m3 : Aside0 (b5 ≠ b1) := ⟨y6⟩
  have m4 : Aside0 (b1 ≠ b5) := ⟨y7⟩
  have m5 : Aside0 (b7 ≠ b1) := ⟨y8⟩
  have A1 : Aside0 (b1 ≠ b7) := ⟨y9⟩
  have A2 : Aside0 (Below w.heap.size w w21) := ⟨A0⟩
  clear b8
  clear a0
  clear a1
  clear a2
  clear HB
  clear h0_ h1_ h2_ h3_ h4_ h5_ h6_ h7_ h8_ h9_ x6 x7 x8 x9 y0 y1 y2 y3 y4 y5 y6 y7 y8 y9 A0
  have b8 := n0_
  have a0 := n1_
  have a1 := n2_
  have a2 := n3_
  have a5 := n4_
  have a4 := n5_
  have r3 := n6_
  have d1 := n7_
  have f6 := n8_
  have g7 := n9_
  have f7 := d6
  have g8 := d7
  have f8 := d8
  have g9 := d9
  have e1 := f3
  have e0 := f4
  have r4 := f5
  have d2 := g3
  have g0 := g4
  have h2 := g5
  have g1 := m3
  have h3 := m4
  have g2 := m5
  have h4 := A1
  have HB := A2
  clear n0_ n1_ n2_ n3_ n4_ n5_ n6_ n7_ n8_ n9_ d6 d7 d8 d9 f3 f4 f5 g3 g4 g5 m3 m4 m5 A1 A2
  have hHeld : w21.cell? b9 = some (.int .i64 ((rd_T23 a3 0).f0)) ∧ w21.cell? ⟨b9.block, b9.off + 1, none⟩ = some (.int .i64 ((rd_T23 a3 0).f1)) ∧ w21.cell? b9 = some (.int .i64 ((rd_T23 a3 0).f0)) ∧ w21.cell? ⟨b9.block, b9.off + 1, none⟩ = some (.int .i64 ((rd_T23 a3 0).f1)) := hS_
  refine norm_ (a' := ?_) ?_ ?_
  rotate_left
  ·simp only [putAll, Act.put, List.setIfInBounds_toArray, List.set_cons_zero, List.set_cons_succ]
   rfl
  refine one_ (i := 8) (N := none) #[true, true, true, true, true, true, true, true, true, false] rfl rfl (one_of HT_.out (by kernel_rfl)) (by decide) (fun K hK => ?_)
  have bo_ : w21.cell? ⟨b0, 0, none⟩ = some (.int .i64 0) := (blk_cell a5.out 0).trans rfl
  have at_ := blk_frozen a5.out 0
  have J7 := f6.out
  have J8 := f7.out
  have J9 := f8.out
  have L0 := e1.out
  have L1 := g7.out
  have L2 := g8.out
  have L3 := g9.out
  have L4 := e0.out
  have bp_ : w21.cell? ⟨b0, 1, none⟩ = some (.int .i64 0) := (blk_cell a5.out 1).trans rfl
  have av_ := blk_frozen a5.out 1
  have L5 := f6.out
  have L6 := f7.out
  have L7 := f8.out
  have L8 := e1.out
  have L9 := g7.out
  have M0 := g8.out
  have M1 := g9.out
  have M2 := e0.out
  refine skip_ (w1 := ?_) (by rfl) rfl ?_ ?_
  rotate_left
  ·go_simp
   rfl
  refine hK.out _ _ ⟨((cell_far (p := ⟨b0, _, none⟩) (by first | exact Kd.own_blk (Kd.R_away b8.out (fun _ hk => hk.2.2.2.1)) | (rw [add_block]; exact Kd.own_blk (Kd.R_away b8.out (fun _ hk => hk.2.2.2.1))) | (show (Addr.add _ _).block ≠ _; rw [add_block]; exact Kd.own_blk (Kd.R_away b8.out (fun _ hk => hk.2.2.2.1))) | (dsimp only; exact Kd.own_blk (Kd.R_away b8.out (fun _ hk => hk.2.2.2.1)))) _).trans (((cell_far (p := ⟨b0, _, none⟩) (by first | exact Kd.own_blk (Kd.R_away b8.out (fun _ hk => hk.2.2.2.1)) | (rw [add_block]; exact Kd.own_blk (Kd.R_away b8.out (fun _ hk => hk.2.2.2.1))) | (show (Addr.add _ _).block ≠ _; rw [add_block]; exact Kd.own_blk (Kd.R_away b8.out (fun _ hk => hk.2.2.2.1))) | (dsimp only; exact Kd.own_blk (Kd.R_away b8.out (fun _ hk => hk.2.2.2.1)))) _).trans (hHeld.1)))), ((cell_far (p := ⟨b0, _, none⟩) (by first | exact Kd.own_blk (Kd.R_away b8.out (fun _ hk => hk.2.2.2.1)) | (rw [add_block]; exact Kd.own_blk (Kd.R_away b8.out (fun _ hk => hk.2.2.2.1))) | (show (Addr.add _ _).block ≠ _; rw [add_block]; exact Kd.own_blk (Kd.R_away b8.out (fun _ hk => hk.2.2.2.1))) | (dsimp only; exact Kd.own_blk (Kd.R_away b8.out (fun _ hk => hk.2.2.2.1)))) _).trans (((cell_far (p := ⟨b0, _, none⟩) (by first | exact Kd.own_blk (Kd.R_away b8.out (fun _ hk => hk.2.2.2.1)) | (rw [add_block]; exact Kd.own_blk (Kd.R_away b8.out (fun _ hk => hk.2.2.2.1))) | (show (Addr.add _ _).block ≠ _; rw [add_block]; exact Kd.own_blk (Kd.R_away b8.out (fun _ hk => hk.2.2.2.1))) | (dsimp only; exact Kd.own_blk (Kd.R_away b8.out (fun _ hk => hk.2.2.2.1)))) _).trans (hHeld.2.1)))), ((cell_far (p := ⟨b0, _, none⟩) (by first | exact Kd.own_blk (Kd.R_away b8.out (fun _ hk => hk.2.2.2.1)) | (rw [add_block]; exact Kd.own_blk (Kd.R_away b8.out (fun _ hk => hk.2.2.2.1))) | (show (Addr.add _ _).block ≠ _; rw [add_block]; exact Kd.own_blk (Kd.R_away b8.out (fun _ hk => hk.2.2.2.1))) | (dsimp only; exact Kd.own_blk (Kd.R_away b8.out (fun _ hk => hk.2.2.2.1)))) _).trans (((cell_far (p := ⟨b0, _, none⟩) (by first | exact Kd.own_blk (Kd.R_away b8.out (fun _ hk => hk.2.2.2.1)) | (rw [add_block]; exact Kd.own_blk (Kd.R_away b8.out (fun _ hk => hk.2.2.2.1))) | (show (Addr.add _ _).block ≠ _; rw [add_block]; exact Kd.own_blk (Kd.R_away b8.out (fun _ hk => hk.2.2.2.1))) | (dsimp only; exact Kd.own_blk (Kd.R_away b8.out (fun _ hk => hk.2.2.2.1)))) _).trans (hHeld.2.2.1)))), ((cell_far (p := ⟨b0, _, none⟩) (by first | exact Kd.own_blk (Kd.R_away b8.out (fun _ hk => hk.2.2.2.1)) | (rw [add_block]; exact Kd.own_blk (Kd.R_away b8.out (fun _ hk => hk.2.2.2.1))) | (show (Addr.add _ _).block ≠ _; rw [add_block]; exact Kd.own_blk (Kd.R_away b8.out (fun _ hk => hk.2.2.2.1))) | (dsimp only; exact Kd.own_blk (Kd.R_away b8.out (fun _ hk => hk.2.2.2.1)))) _).trans (((cell_far (p := ⟨b0, _, none⟩) (by first | exact Kd.own_blk (Kd.R_away b8.out (fun _ hk => hk.2.2.2.1)) | (rw [add_block]; exact Kd.own_blk (Kd.R_away b8.out (fun _ hk => hk.2.2.2.1))) | (show (Addr.add _ _).block ≠ _; rw [add_block]; exact Kd.own_blk (Kd.R_away b8.out (fun _ hk => hk.2.2.2.1))) | (dsimp only; exact Kd.own_blk (Kd.R_away b8.out (fun _ hk => hk.2.2.2.1)))) _).trans (hHeld.2.2.2))))⟩ (fun hHeld => ?_)
  clear hK K
  refine one_ (i := 9) (N := none) #[true, true, true, true, true, true, true, true, true, true] rfl rfl (one_of HT_.out (by kernel_rfl)) (by decide) (fun K hK => ?_)
  have bq_ : w21.cell? ⟨b1, 0, none⟩ = some (.int .i64 0) := (blk_cell a4.out 0).trans rfl
  have ax_ := blk_frozen a4.out 0
  have M3 := g0.out
  have M4 := g1.out
  have M5 := g2.out
  have M6 := e0.out
  have M7 := h2.out
  have M8 := h3.out
  have M9 := h4.out
  have N0 := e1.out
  have br_ : w21.cell? ⟨b1, 1, none⟩ = some (.int .i64 0) := (blk_cell a4.out 1).trans rfl
  have ay_ := blk_frozen a4.out 1
  have N1 := g0.out
  have N2 := g1.out
  have N3 := g2.out
  have N4 := e0.out
  have N5 := h2.out
  have N6 := h3.out
  have N7 := h4.out
  have N8 := e1.out
  refine skip_ (w1 := ?_) (by rfl) rfl ?_ ?_
  rotate_left
  ·go_simp
   rfl
  refine hK.out _ _ ⟨((cell_far (p := ⟨b1, _, none⟩) (by first | exact Kd.own_blk (Kd.R_away b8.out (fun _ hk => hk.2.2.2.2)) | (rw [add_block]; exact Kd.own_blk (Kd.R_away b8.out (fun _ hk => hk.2.2.2.2))) | (show (Addr.add _ _).block ≠ _; rw [add_block]; exact Kd.own_blk (Kd.R_away b8.out (fun _ hk => hk.2.2.2.2))) | (dsimp only; exact Kd.own_blk (Kd.R_away b8.out (fun _ hk => hk.2.2.2.2)))) _).trans (((cell_far (p := ⟨b1, _, none⟩) (by first | exact Kd.own_blk (Kd.R_away b8.out (fun _ hk => hk.2.2.2.2)) | (rw [add_block]; exact Kd.own_blk (Kd.R_away b8.out (fun _ hk => hk.2.2.2.2))) | (show (Addr.add _ _).block ≠ _; rw [add_block]; exact Kd.own_blk (Kd.R_away b8.out (fun _ hk => hk.2.2.2.2))) | (dsimp only; exact Kd.own_blk (Kd.R_away b8.out (fun _ hk => hk.2.2.2.2)))) _).trans (hHeld.1)))), ((cell_far (p := ⟨b1, _, none⟩) (by first | exact Kd.own_blk (Kd.R_away b8.out (fun _ hk => hk.2.2.2.2)) | (rw [add_block]; exact Kd.own_blk (Kd.R_away b8.out (fun _ hk => hk.2.2.2.2))) | (show (Addr.add _ _).block ≠ _; rw [add_block]; exact Kd.own_blk (Kd.R_away b8.out (fun _ hk => hk.2.2.2.2))) | (dsimp only; exact Kd.own_blk (Kd.R_away b8.out (fun _ hk => hk.2.2.2.2)))) _).trans (((cell_far (p := ⟨b1, _, none⟩) (by first | exact Kd.own_blk (Kd.R_away b8.out (fun _ hk => hk.2.2.2.2)) | (rw [add_block]; exact Kd.own_blk (Kd.R_away b8.out (fun _ hk => hk.2.2.2.2))) | (show (Addr.add _ _).block ≠ _; rw [add_block]; exact Kd.own_blk (Kd.R_away b8.out (fun _ hk => hk.2.2.2.2))) | (dsimp only; exact Kd.own_blk (Kd.R_away b8.out (fun _ hk => hk.2.2.2.2)))) _).trans (hHeld.2.1)))), ((cell_far (p := ⟨b1, _, none⟩) (by first | exact Kd.own_blk (Kd.R_away b8.out (fun _ hk => hk.2.2.2.2)) | (rw [add_block]; exact Kd.own_blk (Kd.R_away b8.out (fun _ hk => hk.2.2.2.2))) | (show (Addr.add _ _).block ≠ _; rw [add_block]; exact Kd.own_blk (Kd.R_away b8.out (fun _ hk => hk.2.2.2.2))) | (dsimp only; exact Kd.own_blk (Kd.R_away b8.out (fun _ hk => hk.2.2.2.2)))) _).trans (((cell_far (p := ⟨b1, _, none⟩) (by first | exact Kd.own_blk (Kd.R_away b8.out (fun _ hk => hk.2.2.2.2)) | (rw [add_block]; exact Kd.own_blk (Kd.R_away b8.out (fun _ hk => hk.2.2.2.2))) | (show (Addr.add _ _).block ≠ _; rw [add_block]; exact Kd.own_blk (Kd.R_away b8.out (fun _ hk => hk.2.2.2.2))) | (dsimp only; exact Kd.own_blk (Kd.R_away b8.out (fun _ hk => hk.2.2.2.2)))) _).trans (hHeld.2.2.1)))), ((cell_far (p := ⟨b1, _, none⟩) (by first | exact Kd.own_blk (Kd.R_away b8.out (fun _ hk => hk.2.2.2.2)) | (rw [add_block]; exact Kd.own_blk (Kd.R_away b8.out (fun _ hk => hk.2.2.2.2))) | (show (Addr.add _ _).block ≠ _; rw [add_block]; exact Kd.own_blk (Kd.R_away b8.out (fun _ hk => hk.2.2.2.2))) | (dsimp only; exact Kd.own_blk (Kd.R_away b8.out (fun _ hk => hk.2.2.2.2)))) _).trans (((cell_far (p := ⟨b1, _, none⟩) (by first | exact Kd.own_blk (Kd.R_away b8.out (fun _ hk => hk.2.2.2.2)) | (rw [add_block]; exact Kd.own_blk (Kd.R_away b8.out (fun _ hk => hk.2.2.2.2))) | (show (Addr.add _ _).block ≠ _; rw [add_block]; exact Kd.own_blk (Kd.R_away b8.out (fun _ hk => hk.2.2.2.2))) | (dsimp only; exact Kd.own_blk (Kd.R_away b8.out (fun _ hk => hk.2.2.2.2)))) _).trans (hHeld.2.2.2))))⟩ (fun hHeld => ?_)
  clear hK K
  refine done_ (done_of HT_.out (by kernel_rfl)) ?_
  try go_wp2
  go_loopg [10] k (fun kq v10 w' => ∃ (a6 : Int) (b2 : Int) (a9 : Int) (a8 : Int) (a7 : Int), v10 = .int .i64 a6 ∧ Aside0 (laws_FnRGCuts.l0 kq a3 a6 b2 a9 a8 a7 = some r) ∧ Aside0 (kq ≤ k) ∧ Aside0 (Kd.R k23 23 w' w.heap.size (fun k_ => k_ ≠ b4 ∧ k_ ≠ b5 ∧ k_ ≠ b7 ∧ k_ ≠ b0 ∧ k_ ≠ b1) (.slice (some b9) a3.length h6) a3) ∧ Aside0 (w'.heap[b4]? = some (.cells #[.int .i64 a0_0, .int .i64 a0_1] 23 (0, 0))) ∧ Aside0 (w'.heap[b5]? = some (.cells #[.int .i64 a1_0, .int .i64 a1_1] 23 (0, 0))) ∧ Aside0 (w'.heap[b7]? = some (.cells #[.int .i64 a2_0, .int .i64 a2_1] 23 (0, 0))) ∧ Aside0 (w'.heap[b0]? = some (.cells #[.int .i64 b2, .int .i64 a9] 23 (0, 0))) ∧ Aside0 (w'.heap[b1]? = some (.cells #[.int .i64 a8, .int .i64 a7] 23 (0, 0))) ∧ Aside0 (Below w.heap.size w w'))
  case atStart => exact ⟨(0), ((rd_T23 a3 0).f0), ((rd_T23 a3 0).f1), ((rd_T23 a3 0).f0), ((rd_T23 a3 0).f1), (by first | rfl | (simp; done) | (simp [*]; done)), H', ⟨Nat.le_refl _⟩, ⟨by (with_reducible repeat (first | apply Kd.R_alloc | apply Kd.R_drewN | apply Kd.R_drew)); exact Kd.R_mono (Kd.R_far (p := ⟨b1, 1, none⟩) (Kd.R_far (p := ⟨b1, 0, none⟩) (Kd.R_far (p := ⟨b0, 1, none⟩) (Kd.R_far (p := ⟨b0, 0, none⟩) (Kd.R_mono (Kd.R_mono b8.out (fun k_ hk => (⟨hk, hk.2.2.2.1⟩ : _ ∧ k_ ≠ b0))) (fun k_ hk => (⟨hk, hk.1.2.2.2.2⟩ : _ ∧ k_ ≠ b1))) (fun _ hk => hk.1.2) (.int .i64 ((rd_T23 a3 0).f0))) (fun _ hk => hk.1.2) (.int .i64 ((rd_T23 a3 0).f1))) (fun _ hk => hk.2) (.int .i64 ((rd_T23 a3 0).f0))) (fun _ hk => hk.2) (.int .i64 ((rd_T23 a3 0).f1))) (fun _ hk => ⟨hk.1.1.1, ⟨hk.1.1.2.1, ⟨hk.1.1.2.2.1, ⟨hk.1.1.2.2.2.1, hk.1.1.2.2.2.2⟩⟩⟩⟩)⟩, ⟨by (with_reducible repeat (first | refine bN ?_ _ | refine bD ?_ | refine bA ?_ _)); refine blk_far ?_ g0.out _; (with_reducible repeat (first | refine bN ?_ _ | refine bD ?_ | refine bA ?_ _)); refine blk_far ?_ g0.out _; (with_reducible repeat (first | refine bN ?_ _ | refine bD ?_ | refine bA ?_ _)); refine blk_far ?_ f6.out _; (with_reducible repeat (first | refine bN ?_ _ | refine bD ?_ | refine bA ?_ _)); refine blk_far ?_ f6.out _; (with_reducible repeat (first | refine bN ?_ _ | refine bD ?_ | refine bA ?_ _)); exact a0.out⟩, ⟨by (with_reducible repeat (first | refine bN ?_ _ | refine bD ?_ | refine bA ?_ _)); refine blk_far ?_ g1.out _; (with_reducible repeat (first | refine bN ?_ _ | refine bD ?_ | refine bA ?_ _)); refine blk_far ?_ g1.out _; (with_reducible repeat (first | refine bN ?_ _ | refine bD ?_ | refine bA ?_ _)); refine blk_far ?_ f7.out _; (with_reducible repeat (first | refine bN ?_ _ | refine bD ?_ | refine bA ?_ _)); refine blk_far ?_ f7.out _; (with_reducible repeat (first | refine bN ?_ _ | refine bD ?_ | refine bA ?_ _)); exact a1.out⟩, ⟨by (with_reducible repeat (first | refine bN ?_ _ | refine bD ?_ | refine bA ?_ _)); refine blk_far ?_ g2.out _; (with_reducible repeat (first | refine bN ?_ _ | refine bD ?_ | refine bA ?_ _)); refine blk_far ?_ g2.out _; (with_reducible repeat (first | refine bN ?_ _ | refine bD ?_ | refine bA ?_ _)); refine blk_far ?_ f8.out _; (with_reducible repeat (first | refine bN ?_ _ | refine bD ?_ | refine bA ?_ _)); refine blk_far ?_ f8.out _; (with_reducible repeat (first | refine bN ?_ _ | refine bD ?_ | refine bA ?_ _)); exact a2.out⟩, ⟨by (with_reducible repeat (first | refine bN ?_ _ | refine bD ?_ | refine bA ?_ _)); refine blk_far ?_ e0.out _; (with_reducible repeat (first | refine bN ?_ _ | refine bD ?_ | refine bA ?_ _)); refine blk_far ?_ e0.out _; (with_reducible repeat (first | refine bN ?_ _ | refine bD ?_ | refine bA ?_ _)); refine blk_put (cs := #[.int .i64 ((rd_T23 a3 0).f0), .int .i64 0]) ?_ 1 _ rfl; (with_reducible repeat (first | refine bN ?_ _ | refine bD ?_ | refine bA ?_ _)); refine blk_put (cs := #[.int .i64 0, .int .i64 0]) ?_ 0 _ rfl; (with_reducible repeat (first | refine bN ?_ _ | refine bD ?_ | refine bA ?_ _)); exact a5.out⟩, ⟨by (with_reducible repeat (first | refine bN ?_ _ | refine bD ?_ | refine bA ?_ _)); refine blk_put (cs := #[.int .i64 ((rd_T23 a3 0).f0), .int .i64 0]) ?_ 1 _ rfl; (with_reducible repeat (first | refine bN ?_ _ | refine bD ?_ | refine bA ?_ _)); refine blk_put (cs := #[.int .i64 0, .int .i64 0]) ?_ 0 _ rfl; (with_reducible repeat (first | refine bN ?_ _ | refine bD ?_ | refine bA ?_ _)); refine blk_far ?_ e1.out _; (with_reducible repeat (first | refine bN ?_ _ | refine bD ?_ | refine bA ?_ _)); refine blk_far ?_ e1.out _; (with_reducible repeat (first | refine bN ?_ _ | refine bD ?_ | refine bA ?_ _)); exact a4.out⟩, ⟨by repeat (first | (with_reducible first | exact HB.out | apply wA | apply wN | apply wD | refine wS ?_ c4.out | refine wS ?_ c8.out | refine wS ?_ c9.out | refine wS ?_ d1.out | refine wS ?_ d2.out) | exact HB.out)⟩⟩
  case round =>
   clear H'
   try clear c1
   try clear p1
   try clear q1
   try clear hx1
   try clear qi1
   try clear c2
   try clear p2
   try clear c10
   try clear p11
   try clear q11
   try clear hx11
   try clear qi11
   try clear m7
   try clear m8
   try clear m9
   try clear n0
   try clear r6
   try clear r8
   try clear r7
   try clear r9
   obtain ⟨a6, b2, a9, a8, a7, rfl, HA, HK1, b3, a0, a1, a2, a5, a4, HB⟩ := hrel
   cases gk with
   | zero => exact absurd HA.out (by simp [laws_FnRGCuts.l0])
   | succ k1 =>
    have H := HA.out
    clear HA
    simp only [laws_FnRGCuts.l0] at H
    by_cases c26 : a6 < 3
    ·rw [if_pos c26] at H
     have c26b0 : decide (a6 < 3) = true := decide_eq_true c26
     clear c26
     have H' := aM H
     clear H
     go_wp2
     go_loopg [11] k1 (fun kq v11 w' => ∃ (c0 : Int), v11 = .int .i64 c0 ∧ Aside0 (laws_FnRGCuts.l1 kq a3 a6 c0 b2 a9 a8 a7 = some r) ∧ Aside0 (kq ≤ k1) ∧ Aside0 (Kd.R k23 23 w' w.heap.size (fun k_ => k_ ≠ b4 ∧ k_ ≠ b5 ∧ k_ ≠ b7 ∧ k_ ≠ b0 ∧ k_ ≠ b1) (.slice (some b9) a3.length h6) a3) ∧ Aside0 (w'.heap[b4]? = some (.cells #[.int .i64 a0_0, .int .i64 a0_1] 23 (0, 0))) ∧ Aside0 (w'.heap[b5]? = some (.cells #[.int .i64 a1_0, .int .i64 a1_1] 23 (0, 0))) ∧ Aside0 (w'.heap[b7]? = some (.cells #[.int .i64 a2_0, .int .i64 a2_1] 23 (0, 0))) ∧ Aside0 (w'.heap[b0]? = some (.cells #[.int .i64 b2, .int .i64 a9] 23 (0, 0))) ∧ Aside0 (w'.heap[b1]? = some (.cells #[.int .i64 a8, .int .i64 a7] 23 (0, 0))) ∧ Aside0 (Below w.heap.size w w'))
     case atStart => exact ⟨(0), (by first | rfl | (simp; done) | (simp [*]; done)), H', ⟨Nat.le_refl _⟩, ⟨by (with_reducible repeat (first | apply Kd.R_alloc | apply Kd.R_drewN | apply Kd.R_drew)); exact b3.out⟩, ⟨by (with_reducible repeat (first | refine bN ?_ _ | refine bD ?_ | refine bA ?_ _)); exact a0.out⟩, ⟨by (with_reducible repeat (first | refine bN ?_ _ | refine bD ?_ | refine bA ?_ _)); exact a1.out⟩, ⟨by (with_reducible repeat (first | refine bN ?_ _ | refine bD ?_ | refine bA ?_ _)); exact a2.out⟩, ⟨by (with_reducible repeat (first | refine bN ?_ _ | refine bD ?_ | refine bA ?_ _)); exact a5.out⟩, ⟨by (with_reducible repeat (first | refine bN ?_ _ | refine bD ?_ | refine bA ?_ _)); exact a4.out⟩, ⟨by repeat (first | (with_reducible first | exact HB.out | apply wA | apply wN | apply wD | refine wS ?_ c4.out | refine wS ?_ c8.out | refine wS ?_ c9.out | refine wS ?_ d1.out | refine wS ?_ d2.out) | exact HB.out)⟩⟩
     case round =>
      clear H'
      try clear c1
      try clear p1
      try clear q1
      try clear hx1
      try clear qi1
      try clear c2
      try clear p2
      try clear c10
      try clear p11
      try clear q11
      try clear hx11
      try clear qi11
      try clear c26
      try clear c26b0
      try clear m7
      try clear m8
      try clear m9
      try clear n0
      try clear p1
      try clear p11
      try clear r6
      try clear r8
      try clear p2
      try clear q1
      try clear q11
      try clear r7
      try clear r9
      obtain ⟨c0, rfl, HA, HK2, b3, a0, a1, a2, a5, a4, HB⟩ := hrel
      cases gk with
      | zero => exact absurd HA.out (by simp [laws_FnRGCuts.l1])
      | succ k2 =>
       have H := HA.out
       clear HA
       simp only [laws_FnRGCuts.l1] at H
       by_cases c27 : c0 < 3
       ·rw [if_pos c27] at H
        have c27b0 : decide (c0 < 3) = true := decide_eq_true c27
        clear c27
        by_cases c28 : 0 ≤ a6
        ·rw [if_pos c28] at H
         have c28b0 : decide (0 ≤ a6) = true := decide_eq_true c28
         clear c28
         by_cases c29 : a6 < (a3.length : Int)
         ·rw [if_pos c29] at H
          have c29b0 : decide (a6 < (a3.length : Int)) = true := decide_eq_true c29
          clear c29
          by_cases c30 : 0 ≤ c0
          ·rw [if_pos c30] at H
           have c30b0 : decide (0 ≤ c0) = true := decide_eq_true c30
           clear c30
           by_cases c31 : c0 < (a3.length : Int)
           ·rw [if_pos c31] at H
            have c31b0 : decide (c0 < (a3.length : Int)) = true := decide_eq_true c31
            clear c31
            replace H := Option.bind_eq_some_iff.mp H
            obtain ⟨⟨o6, A3⟩, A7, H⟩ := H
            replace H : (if A3 = true then ((laws_sign.f o6).bind fun m1 => ((spec_RGPlace.f k2 ((rd_T23 a3 a6).f0) ((rd_T23 a3 a6).f1)).bind fun m6 => ((spec_RGPlace.f k2 ((rd_T23 a3 c0).f0) ((rd_T23 a3 c0).f1)).bind fun m2 => ((laws_sign.f (wrap64 (m6 - m2))).bind fun h5 => (if m1 = h5 then (laws_FnRGCuts.l1 k2 a3 a6 (wrap64 (c0 + 1)) b2 a9 a8 a7) else (some false)))))) else (some false)) = some r := H
            have A32 := aM A7
            clear A7
            by_cases c33 : A3 = true
            ·subst c33
             have H1 : ((laws_sign.f o6).bind fun m1 => ((spec_RGPlace.f k2 ((rd_T23 a3 a6).f0) ((rd_T23 a3 a6).f1)).bind fun m6 => ((spec_RGPlace.f k2 ((rd_T23 a3 c0).f0) ((rd_T23 a3 c0).f1)).bind fun m2 => ((laws_sign.f (wrap64 (m6 - m2))).bind fun h5 => (if m1 = h5 then (laws_FnRGCuts.l1 k2 a3 a6 (wrap64 (c0 + 1)) b2 a9 a8 a7) else (some false)))))) = some r := by rw [if_pos rfl] at H; exact H
             clear H
             have H := H1
             clear H1
             replace H := Option.bind_eq_some_iff.mp H
             obtain ⟨m1, A8, H⟩ := H
             replace H : ((spec_RGPlace.f k2 ((rd_T23 a3 a6).f0) ((rd_T23 a3 a6).f1)).bind fun m6 => ((spec_RGPlace.f k2 ((rd_T23 a3 c0).f0) ((rd_T23 a3 c0).f1)).bind fun m2 => ((laws_sign.f (wrap64 (m6 - m2))).bind fun h5 => (if m1 = h5 then (laws_FnRGCuts.l1 k2 a3 a6 (wrap64 (c0 + 1)) b2 a9 a8 a7) else (some false))))) = some r := H
             have A34 := aM A8
             clear A8
             replace H := Option.bind_eq_some_iff.mp H
             obtain ⟨m6, A9, H⟩ := H
             replace H : ((spec_RGPlace.f k2 ((rd_T23 a3 c0).f0) ((rd_T23 a3 c0).f1)).bind fun m2 => ((laws_sign.f (wrap64 (m6 - m2))).bind fun h5 => (if m1 = h5 then (laws_FnRGCuts.l1 k2 a3 a6 (wrap64 (c0 + 1)) b2 a9 a8 a7) else (some false)))) = some r := H
             have A35 := aM A9
             clear A9
             replace H := Option.bind_eq_some_iff.mp H
             obtain ⟨m2, B0, H⟩ := H
             replace H : ((laws_sign.f (wrap64 (m6 - m2))).bind fun h5 => (if m1 = h5 then (laws_FnRGCuts.l1 k2 a3 a6 (wrap64 (c0 + 1)) b2 a9 a8 a7) else (some false))) = some r := H
             have A36 := aM B0
             clear B0
             replace H := Option.bind_eq_some_iff.mp H
             obtain ⟨h5, B1, H⟩ := H
             replace H : (if m1 = h5 then (laws_FnRGCuts.l1 k2 a3 a6 (wrap64 (c0 + 1)) b2 a9 a8 a7) else (some false)) = some r := H
             have A37 := aM B1
             clear B1
             by_cases c38 : m1 = h5
             ·rw [if_pos c38] at H
              have c38b0 : (m1 == h5) = true := beq_iff_eq.mpr c38
              have c38b1 : (m1 != h5) = false := bne_eq_false_iff_eq.mpr c38
              clear c38
              have H' := aM H
              clear H
              try go_wp2
              have n0_ := aM (Kd.R_drew b3.out)
              have n1_ := aM (bD a0.out)
              have n2_ := aM (bD a1.out)
              have n3_ := aM (bD a2.out)
              have n4_ := aM (bD a5.out)
              have n5_ := aM (bD a4.out)
              have n6_ := aM (wD HB.out)
              clear b3
              clear a0
              clear a1
              clear a2
              clear a5
              clear a4
              clear HB
              have b3 := n0_
              have a0 := n1_
              have a1 := n2_
              have a2 := n3_
              have a5 := n4_
              have a4 := n5_
              have HB := n6_
              clear n0_ n1_ n2_ n3_ n4_ n5_ n6_
              have n1 : 0 ≤ (a6 : Int) := of_decide_eq_true (by first | (with_reducible assumption) | assumption)
              have n2 : a6 < (a3.length : Int) := of_decide_eq_true (by first | (with_reducible assumption) | assumption)
              obtain ⟨q7, s6, l7, l8⟩ := at_T23 (Kd.R_reads' b3.out).2.2 a6 n1 n2
              obtain rfl : b9 = q7 := (by injection s6)
              replace n1 := eq_true n1
              replace n2 := eq_true n2
              have n3 : 0 ≤ (c0 : Int) := of_decide_eq_true (by first | (with_reducible assumption) | assumption)
              have n4 : c0 < (a3.length : Int) := of_decide_eq_true (by first | (with_reducible assumption) | assumption)
              obtain ⟨q8, s7, l9, m0⟩ := at_T23 (Kd.R_reads' b3.out).2.2 c0 n3 n4
              obtain rfl : b9 = q8 := (by injection s7)
              replace n3 := eq_true n3
              replace n4 := eq_true n4
              refine start_ (n := 14) (S := fun w' => w'.cell? (b9.add ((a6).toNat * 2)) = some (.int .i64 ((rd_T23 a3 a6).f0)) ∧ w'.cell? ⟨(b9.add ((a6).toNat * 2)).block, (b9.add ((a6).toNat * 2)).off + 1, none⟩ = some (.int .i64 ((rd_T23 a3 a6).f1)) ∧ w'.cell? (b9.add ((c0).toNat * 2)) = some (.int .i64 ((rd_T23 a3 c0).f0)) ∧ w'.cell? ⟨(b9.add ((c0).toNat * 2)).block, (b9.add ((c0).toNat * 2)).off + 1, none⟩ = some (.int .i64 ((rd_T23 a3 c0).f1))) (ds := []) #[false, false, false, false, false, false, false, false, false, false, false, false, false, false] (by kernel_rfl) rfl rfl ⟨l7, l8, l9, m0⟩ (fun hHeld => ?_); refine with_tabW laws_FnRGCuts.tab9 laws_FnRGCuts.bits9 (fun HT_ HW_ => ?_)
              generalize wr.drew = w39 at b3 a0 a1 a2 a5 a4 HB l7 l8 l9 m0 hHeld ⊢
              refine pure_ (i := 0) (N := some 49) (v := ?_) (a' := ?_) #[true, false, false, false, false, false, false, false, false, false, false, false, false, false] rfl rfl (any_of HT_.out (by kernel_rfl)) (fun _ _ _ h => h) (Or.inl ⟨by rfl, ?_⟩) ?_ ?_
              rotate_left
              ·intro w'
               go_simp
               with_reducible rfl
              rotate_left
              ·simp only [Act.put, List.setIfInBounds_toArray, List.set_cons_zero, List.set_cons_succ, i64_w, i32_w]
               rfl
              refine pure_ (i := 1) (N := some 50) (v := ?_) (a' := ?_) #[true, true, false, false, false, false, false, false, false, false, false, false, false, false] rfl rfl (any_of HT_.out (by kernel_rfl)) (fun _ _ _ h => h) (Or.inl ⟨by rfl, ?_⟩) ?_ ?_
              rotate_left
              ·intro w'
               go_simp
               with_reducible rfl
              rotate_left
              ·simp only [Act.put, List.setIfInBounds_toArray, List.set_cons_zero, List.set_cons_succ, i64_w, i32_w]
               rfl
              refine pure_ (i := 2) (N := some 51) (v := ?_) (a' := ?_) #[true, true, true, false, false, false, false, false, false, false, false, false, false, false] rfl rfl (any_of HT_.out (by kernel_rfl)) (fun _ _ _ h => h) (Or.inl ⟨by rfl, ?_⟩) ?_ ?_
              rotate_left
              ·intro w'
               go_simp
               with_reducible rfl
              rotate_left
              ·simp only [Act.put, List.setIfInBounds_toArray, List.set_cons_zero, List.set_cons_succ, i64_w, i32_w]
               rfl
              refine pure_ (i := 4) (N := some 53) (v := ?_) (a' := ?_) #[true, true, true, false, true, false, false, false, false, false, false, false, false, false] rfl rfl (any_of HT_.out (by kernel_rfl)) (fun _ _ _ h => h) (Or.inl ⟨by rfl, ?_⟩) ?_ ?_
              rotate_left
              ·intro w'
               go_simp
               with_reducible rfl
              rotate_left
              ·simp only [Act.put, List.setIfInBounds_toArray, List.set_cons_zero, List.set_cons_succ, i64_w, i32_w]
               rfl
              refine pure_ (i := 5) (N := some 54) (v := ?_) (a' := ?_) #[true, true, true, false, true, true, false, false, false, false, false, false, false, false] rfl rfl (any_of HT_.out (by kernel_rfl)) (fun _ _ _ h => h) (Or.inl ⟨by rfl, ?_⟩) ?_ ?_
              rotate_left
              ·intro w'
               go_simp
               with_reducible rfl
              rotate_left
              ·simp only [Act.put, List.setIfInBounds_toArray, List.set_cons_zero, List.set_cons_succ, i64_w, i32_w]
               rfl
              refine pure_ (i := 6) (N := some 55) (v := ?_) (a' := ?_) #[true, true, true, false, true, true, true, false, false, false, false, false, false, false] rfl rfl (any_of HT_.out (by kernel_rfl)) (fun _ _ _ h => h) (Or.inl ⟨by rfl, ?_⟩) ?_ ?_
              rotate_left
              ·intro w'
               go_simp
               with_reducible rfl
              rotate_left
              ·simp only [Act.put, List.setIfInBounds_toArray, List.set_cons_zero, List.set_cons_succ, i64_w, i32_w]
               rfl
              refine take_ (i := 3) (N := some 52) (v := ?_) (a' := ?_) #[true, true, true, true, true, true, true, false, false, false, false, false, false, false] rfl rfl (take_ofW HT_.out HW_.out (by kernel_rfl)) (fun _ _ _ h => h) (Or.inl ⟨by rfl, ?_⟩) hHeld ?_ ?_
              rotate_left
              ·rintro w' ⟨s0, s1, s2, s3⟩
               go_simp
               with_reducible rfl
              rotate_left
              ·simp only [Act.put, List.setIfInBounds_toArray, List.set_cons_zero, List.set_cons_succ, i64_w, i32_w]
               rfl
              refine take_ (i := 7) (N := some 56) (v := ?_) (a' := ?_) #[true, true, true, true, true, true, true, true, false, false, false, false, false, false] rfl rfl (take_ofW HT_.out HW_.out (by kernel_rfl)) (fun _ _ _ h => h) (Or.inl ⟨by rfl, ?_⟩) hHeld ?_ ?_
              rotate_left
              ·rintro w' ⟨s0, s1, s2, s3⟩
               go_simp
               with_reducible rfl
              rotate_left
              ·simp only [Act.put, List.setIfInBounds_toArray, List.set_cons_zero, List.set_cons_succ, i64_w, i32_w]
               rfl
              refine one_ (i := 8) (N := some 57) #[true, true, true, true, true, true, true, true, true, false, false, false, false, false] rfl rfl (one_of HT_.out (by kernel_rfl)) (by decide) (fun K hK => ?_)
              refine goes_ Tryd.func11 (by kernel_rfl) rfl #[.agg #[.int .i64 ((rd_T23 a3 a6).f0), .int .i64 ((rd_T23 a3 a6).f1)], .agg #[.int .i64 ((rd_T23 a3 c0).f0), .int .i64 ((rd_T23 a3 c0).f1)]] (by rfl) rfl rfl (by (try simp only [List.map_toArray, List.map_cons, List.map_nil]); first | done | rfl | (simp only [List.length_drop, List.length_take]; rfl)) ?_
              with_reducible refine (impl_RGCompare.calls ((rd_T23 a3 a6).f0) ((rd_T23 a3 a6).f1) ((rd_T23 a3 c0).f0) ((rd_T23 a3 c0).f1) o6 true _ A32.out).mono ?_
              rintro e w40 ⟨rfl, hb⟩
              have h0 := (hb.cell (World.block_lt_of_cell? _ _ (hHeld.1))).trans (hHeld.1)
              have h1 := (hb.cell (World.block_lt_of_cell? _ _ (hHeld.2.1))).trans (hHeld.2.1)
              have e9 := (hb.cell (World.block_lt_of_cell? _ _ (hHeld.2.2.1))).trans (hHeld.2.2.1)
              have f2 := (hb.cell (World.block_lt_of_cell? _ _ (hHeld.2.2.2))).trans (hHeld.2.2.2)
              refine ⟨_, rfl, ?_⟩
              have n0_ := aM (Kd.R_below (by (with_reducible repeat (first | apply Kd.R_alloc | apply Kd.R_drewN | apply Kd.R_drew)); exact b3.out) hb)
              have n1_ := aM (bB (g := b4) (o := .cells #[.int .i64 a0_0, .int .i64 a0_1] 23 (0, 0)) (by (with_reducible repeat (first | refine bN ?_ _ | refine bD ?_ | refine bA ?_ _)); exact a0.out) hb)
              have n2_ := aM (bB (g := b5) (o := .cells #[.int .i64 a1_0, .int .i64 a1_1] 23 (0, 0)) (by (with_reducible repeat (first | refine bN ?_ _ | refine bD ?_ | refine bA ?_ _)); exact a1.out) hb)
              have n3_ := aM (bB (g := b7) (o := .cells #[.int .i64 a2_0, .int .i64 a2_1] 23 (0, 0)) (by (with_reducible repeat (first | refine bN ?_ _ | refine bD ?_ | refine bA ?_ _)); exact a2.out) hb)
              have n4_ := aM (bB (g := b0) (o := .cells #[.int .i64 b2, .int .i64 a9] 23 (0, 0)) (by (with_reducible repeat (first | refine bN ?_ _ | refine bD ?_ | refine bA ?_ _)); exact a5.out) hb)
              have n5_ := aM (bB (g := b1) (o := .cells #[.int .i64 a8, .int .i64 a7] 23 (0, 0)) (by (with_reducible repeat (first | refine bN ?_ _ | refine bD ?_ | refine bA ?_ _)); exact a4.out) hb)
              have n6_ := aM (wP (by repeat (first | (with_reducible first | exact HB.out | apply wA | apply wN | apply wD | refine wS ?_ c4.out | refine wS ?_ c8.out | refine wS ?_ c9.out | refine wS ?_ d1.out | refine wS ?_ d2.out) | exact HB.out)) hb)
              clear b3
              clear a0
              clear a1
              clear a2
              clear a5
              clear a4
              clear HB
              have b3 := n0_
              have a0 := n1_
              have a1 := n2_
              have a2 := n3_
              have a5 := n4_
              have a4 := n5_
              have HB := n6_
              clear n0_ n1_ n2_ n3_ n4_ n5_ n6_
              (try clear hb)
              (try clear hb2)
              (try clear hk)
              (try clear hi)
              refine hK.out _ _ ⟨h0, h1, e9, f2⟩ (fun hHeld => ?_)
              clear hK K
              refine norm_ (a' := ?_) ?_ ?_
              rotate_left
              ·show Act.put _ (some 57) _ = _
               simp only [Act.put, List.setIfInBounds_toArray, List.set_cons_zero, List.set_cons_succ, i64_w, i32_w]
               rfl
              refine pure_ (i := 9) (N := some 48) (v := ?_) (a' := ?_) #[true, true, true, true, true, true, true, true, true, true, false, false, false, false] rfl rfl (any_of HT_.out (by kernel_rfl)) (fun _ _ _ h => h) (Or.inl ⟨by rfl, ?_⟩) ?_ ?_
              rotate_left
              ·intro w'
               go_simp
               with_reducible rfl
              rotate_left
              ·simp only [Act.put, List.setIfInBounds_toArray, List.set_cons_zero, List.set_cons_succ, i64_w, i32_w]
               rfl
              refine pure_ (i := 10) (N := some 58) (v := ?_) (a' := ?_) #[true, true, true, true, true, true, true, true, true, true, true, false, false, false] rfl rfl (any_of HT_.out (by kernel_rfl)) (fun _ _ _ h => h) (Or.inl ⟨by rfl, ?_⟩) ?_ ?_
              rotate_left
              ·intro w'
               go_simp
               with_reducible rfl
              rotate_left
              ·simp only [Act.put, List.setIfInBounds_toArray, List.set_cons_zero, List.set_cons_succ, i64_w, i32_w]
               rfl
              refine pure_ (i := 11) (N := some 59) (v := ?_) (a' := ?_) #[true, true, true, true, true, true, true, true, true, true, true, true, false, false] rfl rfl (any_of HT_.out (by kernel_rfl)) (fun _ _ _ h => h) (Or.inl ⟨by rfl, ?_⟩) ?_ ?_
              rotate_left
              ·intro w'
               go_simp
               with_reducible rfl
              rotate_left
              ·simp only [Act.put, List.setIfInBounds_toArray, List.set_cons_zero, List.set_cons_succ, i64_w, i32_w]
               rfl
              refine pure_ (i := 12) (N := some 12) (v := ?_) (a' := ?_) #[true, true, true, true, true, true, true, true, true, true, true, true, true, false] rfl rfl (any_of HT_.out (by kernel_rfl)) (fun _ _ _ h => h) (Or.inl ⟨by rfl, ?_⟩) ?_ ?_
              rotate_left
              ·intro w'
               go_simp
               with_reducible rfl
              rotate_left
              ·simp only [Act.put, List.setIfInBounds_toArray, List.set_cons_zero, List.set_cons_succ, i64_w, i32_w]
               rfl
              refine pure_ (i := 13) (N := some 13) (v := ?_) (a' := ?_) #[true, true, true, true, true, true, true, true, true, true, true, true, true, true] rfl rfl (any_of HT_.out (by kernel_rfl)) (fun _ _ _ h => h) (Or.inl ⟨by rfl, ?_⟩) ?_ ?_
              rotate_left
              ·intro w'
               go_simp
               with_reducible rfl
              rotate_left
              ·simp only [Act.put, List.setIfInBounds_toArray, List.set_cons_zero, List.set_cons_succ, i64_w, i32_w]
               rfl
              refine done_ (done_of HT_.out (by kernel_rfl)) ?_
              try go_wp2
              have n0_ := aM (Kd.R_drew b3.out)
              have n1_ := aM (bD a0.out)
              have n2_ := aM (bD a1.out)
              have n3_ := aM (bD a2.out)
              have n4_ := aM (bD a5.out)
              have n5_ := aM (bD a4.out)
              have n6_ := aM (wD HB.out)
              clear b3
              clear a0
              clear a1
              clear a2
              clear a5
              clear a4
              clear HB
              have b3 := n0_
              have a0 := n1_
              have a1 := n2_
              have a2 := n3_
              have a5 := n4_
              have a4 := n5_
              have HB := n6_
              clear n0_ n1_ n2_ n3_ n4_ n5_ n6_
              have p3 : 0 ≤ (a6 : Int) := of_decide_eq_true (by first | (with_reducible assumption) | assumption)
              have p4 : a6 < (a3.length : Int) := of_decide_eq_true (by first | (with_reducible assumption) | assumption)
              obtain ⟨s8, v0, n8, n9⟩ := at_T23 (Kd.R_reads' b3.out).2.2 a6 p3 p4
              obtain rfl : b9 = s8 := (by injection v0)
              replace p3 := eq_true p3
              replace p4 := eq_true p4
              have p5 : 0 ≤ (c0 : Int) := of_decide_eq_true (by first | (with_reducible assumption) | assumption)
              have p7 : c0 < (a3.length : Int) := of_decide_eq_true (by first | (with_reducible assumption) | assumption)
              obtain ⟨s9, v1, o0, o1⟩ := at_T23 (Kd.R_reads' b3.out).2.2 c0 p5 p7
              obtain rfl : b9 = s9 := (by injection v1)
              replace p5 := eq_true p5
              replace p7 := eq_true p7
              refine start_ (n := 19) (S := fun w' => w'.cell? (b9.add ((a6).toNat * 2)) = some (.int .i64 ((rd_T23 a3 a6).f0)) ∧ w'.cell? ⟨(b9.add ((a6).toNat * 2)).block, (b9.add ((a6).toNat * 2)).off + 1, none⟩ = some (.int .i64 ((rd_T23 a3 a6).f1)) ∧ w'.cell? (b9.add ((c0).toNat * 2)) = some (.int .i64 ((rd_T23 a3 c0).f0)) ∧ w'.cell? ⟨(b9.add ((c0).toNat * 2)).block, (b9.add ((c0).toNat * 2)).off + 1, none⟩ = some (.int .i64 ((rd_T23 a3 c0).f1))) (ds := []) #[false, false, false, false, false, false, false, false, false, false, false, false, false, false, false, false, false, false, false] (by kernel_rfl) rfl rfl ⟨n8, n9, o0, o1⟩ (fun hHeld => ?_); refine with_tabW laws_FnRGCuts.tab10 laws_FnRGCuts.bits10 (fun HT_ HW_ => ?_)
              generalize w40.drew = w41 at b3 a0 a1 a2 a5 a4 HB n8 n9 o0 o1 hHeld ⊢
              refine pure_ (i := 0) (N := some 60) (v := ?_) (a' := ?_) #[true, false, false, false, false, false, false, false, false, false, false, false, false, false, false, false, false, false, false] rfl rfl (any_of HT_.out (by kernel_rfl)) (fun _ _ _ h => h) (Or.inl ⟨by rfl, ?_⟩) ?_ ?_
              rotate_left
              ·intro w'
               go_simp
               with_reducible rfl
              rotate_left
              ·simp only [Act.put, List.setIfInBounds_toArray, List.set_cons_zero, List.set_cons_succ, i64_w, i32_w]
               rfl
              refine pure_ (i := 1) (N := some 61) (v := ?_) (a' := ?_) #[true, true, false, false, false, false, false, false, false, false, false, false, false, false, false, false, false, false, false] rfl rfl (any_of HT_.out (by kernel_rfl)) (fun _ _ _ h => h) (Or.inl ⟨by rfl, ?_⟩) ?_ ?_
              rotate_left
              ·intro w'
               go_simp
               with_reducible rfl
              rotate_left
              ·simp only [Act.put, List.setIfInBounds_toArray, List.set_cons_zero, List.set_cons_succ, i64_w, i32_w]
               rfl
              refine pure_ (i := 2) (N := some 62) (v := ?_) (a' := ?_) #[true, true, true, false, false, false, false, false, false, false, false, false, false, false, false, false, false, false, false] rfl rfl (any_of HT_.out (by kernel_rfl)) (fun _ _ _ h => h) (Or.inl ⟨by rfl, ?_⟩) ?_ ?_
              rotate_left
              ·intro w'
               go_simp
               with_reducible rfl
              rotate_left
              ·simp only [Act.put, List.setIfInBounds_toArray, List.set_cons_zero, List.set_cons_succ, i64_w, i32_w]
               rfl
              refine pure_ (i := 3) (N := some 63) (v := ?_) (a' := ?_) #[true, true, true, true, false, false, false, false, false, false, false, false, false, false, false, false, false, false, false] rfl rfl (any_of HT_.out (by kernel_rfl)) (fun _ _ _ h => h) (Or.inl ⟨by rfl, ?_⟩) ?_ ?_
              rotate_left
              ·intro w'
               go_simp
               with_reducible rfl
              rotate_left
              ·simp only [Act.put, List.setIfInBounds_toArray, List.set_cons_zero, List.set_cons_succ, i64_w, i32_w]
               rfl
              refine pure_ (i := 5) (N := some 65) (v := ?_) (a' := ?_) #[true, true, true, true, false, true, false, false, false, false, false, false, false, false, false, false, false, false, false] rfl rfl (any_of HT_.out (by kernel_rfl)) (fun _ _ _ h => h) (Or.inl ⟨by rfl, ?_⟩) ?_ ?_
              rotate_left
              ·intro w'
               go_simp
               with_reducible rfl
              rotate_left
              ·simp only [Act.put, List.setIfInBounds_toArray, List.set_cons_zero, List.set_cons_succ, i64_w, i32_w]
               rfl
              refine pure_ (i := 6) (N := some 66) (v := ?_) (a' := ?_) #[true, true, true, true, false, true, true, false, false, false, false, false, false, false, false, false, false, false, false] rfl rfl (any_of HT_.out (by kernel_rfl)) (fun _ _ _ h => h) (Or.inl ⟨by rfl, ?_⟩) ?_ ?_
              rotate_left
              ·intro w'
               go_simp
               with_reducible rfl
              rotate_left
              ·simp only [Act.put, List.setIfInBounds_toArray, List.set_cons_zero, List.set_cons_succ, i64_w, i32_w]
               rfl
              refine pure_ (i := 7) (N := some 67) (v := ?_) (a' := ?_) #[true, true, true, true, false, true, true, true, false, false, false, false, false, false, false, false, false, false, false] rfl rfl (any_of HT_.out (by kernel_rfl)) (fun _ _ _ h => h) (Or.inl ⟨by rfl, ?_⟩) ?_ ?_
              rotate_left
              ·intro w'
               go_simp
               with_reducible rfl
              rotate_left
              ·simp only [Act.put, List.setIfInBounds_toArray, List.set_cons_zero, List.set_cons_succ, i64_w, i32_w]
               rfl
              refine pure_ (i := 10) (N := some 70) (v := ?_) (a' := ?_) #[true, true, true, true, false, true, true, true, false, false, true, false, false, false, false, false, false, false, false] rfl rfl (any_of HT_.out (by kernel_rfl)) (fun _ _ _ h => h) (Or.inl ⟨by rfl, ?_⟩) ?_ ?_
              rotate_left
              ·intro w'
               go_simp
               with_reducible rfl
              rotate_left
              ·simp only [Act.put, List.setIfInBounds_toArray, List.set_cons_zero, List.set_cons_succ, i64_w, i32_w]
               rfl
              refine pure_ (i := 11) (N := some 71) (v := ?_) (a' := ?_) #[true, true, true, true, false, true, true, true, false, false, true, true, false, false, false, false, false, false, false] rfl rfl (any_of HT_.out (by kernel_rfl)) (fun _ _ _ h => h) (Or.inl ⟨by rfl, ?_⟩) ?_ ?_
              rotate_left
              ·intro w'
               go_simp
               with_reducible rfl
              rotate_left
              ·simp only [Act.put, List.setIfInBounds_toArray, List.set_cons_zero, List.set_cons_succ, i64_w, i32_w]
               rfl
              refine pure_ (i := 12) (N := some 72) (v := ?_) (a' := ?_) #[true, true, true, true, false, true, true, true, false, false, true, true, true, false, false, false, false, false, false] rfl rfl (any_of HT_.out (by kernel_rfl)) (fun _ _ _ h => h) (Or.inl ⟨by rfl, ?_⟩) ?_ ?_
              rotate_left
              ·intro w'
               go_simp
               with_reducible rfl
              rotate_left
              ·simp only [Act.put, List.setIfInBounds_toArray, List.set_cons_zero, List.set_cons_succ, i64_w, i32_w]
               rfl
              refine take_ (i := 8) (N := some 68) (v := ?_) (a' := ?_) #[true, true, true, true, false, true, true, true, true, false, true, true, true, false, false, false, false, false, false] rfl rfl (take_ofW HT_.out HW_.out (by kernel_rfl)) (fun _ _ _ h => h) (Or.inl ⟨by rfl, ?_⟩) hHeld ?_ ?_
              rotate_left
              ·rintro w' ⟨s0, s1, s2, s3⟩
               go_simp
               with_reducible rfl
              rotate_left
              ·simp only [Act.put, List.setIfInBounds_toArray, List.set_cons_zero, List.set_cons_succ, i64_w, i32_w]
               rfl
              refine take_ (i := 13) (N := some 73) (v := ?_) (a' := ?_) #[true, true, true, true, false, true, true, true, true, false, true, true, true, true, false, false, false, false, false] rfl rfl (take_ofW HT_.out HW_.out (by kernel_rfl)) (fun _ _ _ h => h) (Or.inl ⟨by rfl, ?_⟩) hHeld ?_ ?_
              rotate_left
              ·rintro w' ⟨s0, s1, s2, s3⟩
               go_simp
               with_reducible rfl
              rotate_left
              ·simp only [Act.put, List.setIfInBounds_toArray, List.set_cons_zero, List.set_cons_succ, i64_w, i32_w]
               rfl
              refine one_ (i := 4) (N := some 64) #[true, true, true, true, true, true, true, true, true, false, true, true, true, true, false, false, false, false, false] rfl rfl (one_of HT_.out (by kernel_rfl)) (by decide) (fun K hK => ?_)
              refine goes_ Tryd.func12 (by kernel_rfl) rfl #[.int .i64 o6] (by rfl) rfl rfl (by (try simp only [List.map_toArray, List.map_cons, List.map_nil]); first | done | rfl | (simp only [List.length_drop, List.length_take]; rfl)) ?_
              with_reducible refine (laws_sign.calls o6 m1 _ A34.out).mono ?_
              rintro e w' ⟨rfl, ⟨nd, rfl⟩⟩
              refine ⟨_, rfl, ?_⟩
              refine hK.out _ _ ⟨hHeld.1, hHeld.2.1, hHeld.2.2.1, hHeld.2.2.2⟩ (fun hHeld => ?_)
              clear hK K
              refine norm_ (a' := ?_) ?_ ?_
              rotate_left
              ·show Act.put _ (some 64) _ = _
               simp only [Act.put, List.setIfInBounds_toArray, List.set_cons_zero, List.set_cons_succ, i64_w, i32_w]
               rfl
              refine one_ (i := 9) (N := some 69) #[true, true, true, true, true, true, true, true, true, true, true, true, true, true, false, false, false, false, false] rfl rfl (one_of HT_.out (by kernel_rfl)) (by decide) (fun K hK => ?_)
              refine goes_ Tryd.func13 (by kernel_rfl) rfl #[.agg #[.int .i64 ((rd_T23 a3 a6).f0), .int .i64 ((rd_T23 a3 a6).f1)]] (by rfl) rfl rfl (by (try simp only [List.map_toArray, List.map_cons, List.map_nil]); first | done | rfl | (simp only [List.length_drop, List.length_take]; rfl)) ?_
              with_reducible refine (spec_RGPlace.calls k2 ((rd_T23 a3 a6).f0) ((rd_T23 a3 a6).f1) m6 _ A35.out).mono ?_
              rintro e w42 ⟨rfl, hb⟩
              have h0 := (hb.cell (World.block_lt_of_cell? _ _ (hHeld.1))).trans (hHeld.1)
              have h1 := (hb.cell (World.block_lt_of_cell? _ _ (hHeld.2.1))).trans (hHeld.2.1)
              have e9 := (hb.cell (World.block_lt_of_cell? _ _ (hHeld.2.2.1))).trans (hHeld.2.2.1)
              have f2 := (hb.cell (World.block_lt_of_cell? _ _ (hHeld.2.2.2))).trans (hHeld.2.2.2)
              refine ⟨_, rfl, ?_⟩
              have n0_ := aM (Kd.R_below (by (with_reducible repeat (first | apply Kd.R_alloc | apply Kd.R_drewN | apply Kd.R_drew)); exact b3.out) hb)
              have n1_ := aM (bB (g := b4) (o := .cells #[.int .i64 a0_0, .int .i64 a0_1] 23 (0, 0)) (by (with_reducible repeat (first | refine bN ?_ _ | refine bD ?_ | refine bA ?_ _)); exact a0.out) hb)
              have n2_ := aM (bB (g := b5) (o := .cells #[.int .i64 a1_0, .int .i64 a1_1] 23 (0, 0)) (by (with_reducible repeat (first | refine bN ?_ _ | refine bD ?_ | refine bA ?_ _)); exact a1.out) hb)
              have n3_ := aM (bB (g := b7) (o := .cells #[.int .i64 a2_0, .int .i64 a2_1] 23 (0, 0)) (by (with_reducible repeat (first | refine bN ?_ _ | refine bD ?_ | refine bA ?_ _)); exact a2.out) hb)
              have n4_ := aM (bB (g := b0) (o := .cells #[.int .i64 b2, .int .i64 a9] 23 (0, 0)) (by (with_reducible repeat (first | refine bN ?_ _ | refine bD ?_ | refine bA ?_ _)); exact a5.out) hb)
              have n5_ := aM (bB (g := b1) (o := .cells #[.int .i64 a8, .int .i64 a7] 23 (0, 0)) (by (with_reducible repeat (first | refine bN ?_ _ | refine bD ?_ | refine bA ?_ _)); exact a4.out) hb)
              have n6_ := aM (wP (by repeat (first | (with_reducible first | exact HB.out | apply wA | apply wN | apply wD | refine wS ?_ c4.out | refine wS ?_ c8.out | refine wS ?_ c9.out | refine wS ?_ d1.out | refine wS ?_ d2.out) | exact HB.out)) hb)
              clear b3
              clear a0
              clear a1
              clear a2
              clear a5
              clear a4
              clear HB
              have b3 := n0_
              have a0 := n1_
              have a1 := n2_
              have a2 := n3_
              have a5 := n4_
              have a4 := n5_
              have HB := n6_
              clear n0_ n1_ n2_ n3_ n4_ n5_ n6_
              (try clear hb)
              (try clear hb2)
              (try clear hk)
              (try clear hi)
              refine hK.out _ _ ⟨h0, h1, e9, f2⟩ (fun hHeld => ?_)
              clear hK K
              refine norm_ (a' := ?_) ?_ ?_
              rotate_left
              ·show Act.put _ (some 69) _ = _
               simp only [Act.put, List.setIfInBounds_toArray, List.set_cons_zero, List.set_cons_succ, i64_w, i32_w]
               rfl
              refine one_ (i := 14) (N := some 74) #[true, true, true, true, true, true, true, true, true, true, true, true, true, true, true, false, false, false, false] rfl rfl (one_of HT_.out (by kernel_rfl)) (by decide) (fun K hK => ?_)
              refine goes_ Tryd.func13 (by kernel_rfl) rfl #[.agg #[.int .i64 ((rd_T23 a3 c0).f0), .int .i64 ((rd_T23 a3 c0).f1)]] (by rfl) rfl rfl (by (try simp only [List.map_toArray, List.map_cons, List.map_nil]); first | done | rfl | (simp only [List.length_drop, List.length_take]; rfl)) ?_
              with_reducible refine (spec_RGPlace.calls k2 ((rd_T23 a3 c0).f0) ((rd_T23 a3 c0).f1) m2 _ A36.out).mono ?_
              rintro e w43 ⟨rfl, hb⟩
              have h0 := (hb.cell (World.block_lt_of_cell? _ _ (hHeld.1))).trans (hHeld.1)
              have h1 := (hb.cell (World.block_lt_of_cell? _ _ (hHeld.2.1))).trans (hHeld.2.1)
              have e9 := (hb.cell (World.block_lt_of_cell? _ _ (hHeld.2.2.1))).trans (hHeld.2.2.1)
              have f2 := (hb.cell (World.block_lt_of_cell? _ _ (hHeld.2.2.2))).trans (hHeld.2.2.2)
              refine ⟨_, rfl, ?_⟩
              have n0_ := aM (Kd.R_below (by (with_reducible repeat (first | apply Kd.R_alloc | apply Kd.R_drewN | apply Kd.R_drew)); exact b3.out) hb)
              have n1_ := aM (bB (g := b4) (o := .cells #[.int .i64 a0_0, .int .i64 a0_1] 23 (0, 0)) (by (with_reducible repeat (first | refine bN ?_ _ | refine bD ?_ | refine bA ?_ _)); exact a0.out) hb)
              have n2_ := aM (bB (g := b5) (o := .cells #[.int .i64 a1_0, .int .i64 a1_1] 23 (0, 0)) (by (with_reducible repeat (first | refine bN ?_ _ | refine bD ?_ | refine bA ?_ _)); exact a1.out) hb)
              have n3_ := aM (bB (g := b7) (o := .cells #[.int .i64 a2_0, .int .i64 a2_1] 23 (0, 0)) (by (with_reducible repeat (first | refine bN ?_ _ | refine bD ?_ | refine bA ?_ _)); exact a2.out) hb)
              have n4_ := aM (bB (g := b0) (o := .cells #[.int .i64 b2, .int .i64 a9] 23 (0, 0)) (by (with_reducible repeat (first | refine bN ?_ _ | refine bD ?_ | refine bA ?_ _)); exact a5.out) hb)
              have n5_ := aM (bB (g := b1) (o := .cells #[.int .i64 a8, .int .i64 a7] 23 (0, 0)) (by (with_reducible repeat (first | refine bN ?_ _ | refine bD ?_ | refine bA ?_ _)); exact a4.out) hb)
              have n6_ := aM (wP (by repeat (first | (with_reducible first | exact HB.out | apply wA | apply wN | apply wD | refine wS ?_ c4.out | refine wS ?_ c8.out | refine wS ?_ c9.out | refine wS ?_ d1.out | refine wS ?_ d2.out) | exact HB.out)) hb)
              clear b3
              clear a0
              clear a1
              clear a2
              clear a5
              clear a4
              clear HB
              have b3 := n0_
              have a0 := n1_
              have a1 := n2_
              have a2 := n3_
              have a5 := n4_
              have a4 := n5_
              have HB := n6_
              clear n0_ n1_ n2_ n3_ n4_ n5_ n6_
              (try clear hb)
              (try clear hb2)
              (try clear hk)
              (try clear hi)
              refine hK.out _ _ ⟨h0, h1, e9, f2⟩ (fun hHeld => ?_)
              clear hK K
              refine norm_ (a' := ?_) ?_ ?_
              rotate_left
              ·show Act.put _ (some 74) _ = _
               simp only [Act.put, List.setIfInBounds_toArray, List.set_cons_zero, List.set_cons_succ, i64_w, i32_w]
               rfl
              refine pure_ (i := 15) (N := some 75) (v := ?_) (a' := ?_) #[true, true, true, true, true, true, true, true, true, true, true, true, true, true, true, true, false, false, false] rfl rfl (any_of HT_.out (by kernel_rfl)) (fun _ _ _ h => h) (Or.inl ⟨by rfl, ?_⟩) ?_ ?_
              rotate_left
              ·intro w'
               go_simp
               with_reducible rfl
              rotate_left
              ·simp only [Act.put, List.setIfInBounds_toArray, List.set_cons_zero, List.set_cons_succ, i64_w, i32_w]
               rfl
              refine one_ (i := 16) (N := some 76) #[true, true, true, true, true, true, true, true, true, true, true, true, true, true, true, true, true, false, false] rfl rfl (one_of HT_.out (by kernel_rfl)) (by decide) (fun K hK => ?_)
              refine goes_ Tryd.func12 (by kernel_rfl) rfl #[.int .i64 (wrap64 (m6 - m2))] (by rfl) rfl rfl (by (try simp only [List.map_toArray, List.map_cons, List.map_nil]); first | done | rfl | (simp only [List.length_drop, List.length_take]; rfl)) ?_
              with_reducible refine (laws_sign.calls (wrap64 (m6 - m2)) h5 _ A37.out).mono ?_
              rintro e w' ⟨rfl, ⟨nd, rfl⟩⟩
              refine ⟨_, rfl, ?_⟩
              refine hK.out _ _ ⟨hHeld.1, hHeld.2.1, hHeld.2.2.1, hHeld.2.2.2⟩ (fun hHeld => ?_)
              clear hK K
              refine norm_ (a' := ?_) ?_ ?_
              rotate_left
              ·show Act.put _ (some 76) _ = _
               simp only [Act.put, List.setIfInBounds_toArray, List.set_cons_zero, List.set_cons_succ, i64_w, i32_w]
               rfl
              refine pure_ (i := 17) (N := some 77) (v := ?_) (a' := ?_) #[true, true, true, true, true, true, true, true, true, true, true, true, true, true, true, true, true, true, false] rfl rfl (any_of HT_.out (by kernel_rfl)) (fun _ _ _ h => h) (Or.inl ⟨by rfl, ?_⟩) ?_ ?_
              rotate_left
              ·intro w'
               go_simp
               with_reducible rfl
              rotate_left
              ·simp only [Act.put, List.setIfInBounds_toArray, List.set_cons_zero, List.set_cons_succ, i64_w, i32_w]
               rfl
              refine pure_ (i := 18) (N := some 78) (v := ?_) (a' := ?_) #[true, true, true, true, true, true, true, true, true, true, true, true, true, true, true, true, true, true, true] rfl rfl (any_of HT_.out (by kernel_rfl)) (fun _ _ _ h => h) (Or.inl ⟨by rfl, ?_⟩) ?_ ?_
              rotate_left
              ·intro w'
               go_simp
               with_reducible rfl
              rotate_left
              ·simp only [Act.put, List.setIfInBounds_toArray, List.set_cons_zero, List.set_cons_succ, i64_w, i32_w]
               rfl
              refine done_ (done_of HT_.out (by kernel_rfl)) ?_
              try go_wp2
              go_roundg k2
              case measure => have := HK1.out; have := HK2.out; omega
              case rel => exact ⟨(wrap64 (c0 + 1)), (by first | rfl | (simp; done) | (simp [*]; done)), H', ⟨by have := HK1.out; have := HK2.out; omega⟩, ⟨by (with_reducible repeat (first | apply Kd.R_alloc | apply Kd.R_drewN | apply Kd.R_drew)); exact b3.out⟩, ⟨by (with_reducible repeat (first | refine bN ?_ _ | refine bD ?_ | refine bA ?_ _)); exact a0.out⟩, ⟨by (with_reducible repeat (first | refine bN ?_ _ | refine bD ?_ | refine bA ?_ _)); exact a1.out⟩, ⟨by (with_reducible repeat (first | refine bN ?_ _ | refine bD ?_ | refine bA ?_ _)); exact a2.out⟩, ⟨by (with_reducible repeat (first | refine bN ?_ _ | refine bD ?_ | refine bA ?_ _)); exact a5.out⟩, ⟨by (with_reducible repeat (first | refine bN ?_ _ | refine bD ?_ | refine bA ?_ _)); exact a4.out⟩, ⟨by repeat (first | (with_reducible first | exact HB.out | apply wA | apply wN | apply wD | refine wS ?_ c4.out | refine wS ?_ c8.out | refine wS ?_ c9.out | refine wS ?_ d1.out | refine wS ?_ d2.out) | exact HB.out)⟩⟩
             ·rw [if_neg c38] at H
              have c38b0 : (m1 == h5) = false := beq_eq_false_iff_ne.mpr c38
              have c38b1 : (m1 != h5) = true := bne_iff_ne.mpr c38
              obtain rfl := Option.some.inj H
              try go_wp2
              have n0_ := aM (Kd.R_drew b3.out)
              have n1_ := aM (bD a0.out)
              have n2_ := aM (bD a1.out)
              have n3_ := aM (bD a2.out)
              have n4_ := aM (bD a5.out)
              have n5_ := aM (bD a4.out)
              have n6_ := aM (wD HB.out)
              clear b3
              clear a0
              clear a1
              clear a2
              clear a5
              clear a4
              clear HB
              have b3 := n0_
              have a0 := n1_
              have a1 := n2_
              have a2 := n3_
              have a5 := n4_
              have a4 := n5_
              have HB := n6_
              clear n0_ n1_ n2_ n3_ n4_ n5_ n6_
              have n1 : 0 ≤ (a6 : Int) := of_decide_eq_true (by first | (with_reducible assumption) | assumption)
              have n2 : a6 < (a3.length : Int) := of_decide_eq_true (by first | (with_reducible assumption) | assumption)
              obtain ⟨q7, s6, l7, l8⟩ := at_T23 (Kd.R_reads' b3.out).2.2 a6 n1 n2
              obtain rfl : b9 = q7 := (by injection s6)
              replace n1 := eq_true n1
              replace n2 := eq_true n2
              have n3 : 0 ≤ (c0 : Int) := of_decide_eq_true (by first | (with_reducible assumption) | assumption)
              have n4 : c0 < (a3.length : Int) := of_decide_eq_true (by first | (with_reducible assumption) | assumption)
              obtain ⟨q8, s7, l9, m0⟩ := at_T23 (Kd.R_reads' b3.out).2.2 c0 n3 n4
              obtain rfl : b9 = q8 := (by injection s7)
              replace n3 := eq_true n3
              replace n4 := eq_true n4
              refine start_ (n := 14) (S := fun w' => w'.cell? (b9.add ((a6).toNat * 2)) = some (.int .i64 ((rd_T23 a3 a6).f0)) ∧ w'.cell? ⟨(b9.add ((a6).toNat * 2)).block, (b9.add ((a6).toNat * 2)).off + 1, none⟩ = some (.int .i64 ((rd_T23 a3 a6).f1)) ∧ w'.cell? (b9.add ((c0).toNat * 2)) = some (.int .i64 ((rd_T23 a3 c0).f0)) ∧ w'.cell? ⟨(b9.add ((c0).toNat * 2)).block, (b9.add ((c0).toNat * 2)).off + 1, none⟩ = some (.int .i64 ((rd_T23 a3 c0).f1))) (ds := []) #[false, false, false, false, false, false, false, false, false, false, false, false, false, false] (by kernel_rfl) rfl rfl ⟨l7, l8, l9, m0⟩ (fun hHeld => ?_); refine with_tabW laws_FnRGCuts.tab9 laws_FnRGCuts.bits9 (fun HT_ HW_ => ?_)
              generalize wr.drew = w44 at b3 a0 a1 a2 a5 a4 HB l7 l8 l9 m0 hHeld ⊢
              refine pure_ (i := 0) (N := some 49) (v := ?_) (a' := ?_) #[true, false, false, false, false, false, false, false, false, false, false, false, false, false] rfl rfl (any_of HT_.out (by kernel_rfl)) (fun _ _ _ h => h) (Or.inl ⟨by rfl, ?_⟩) ?_ ?_
              rotate_left
              ·intro w'
               go_simp
               with_reducible rfl
              rotate_left
              ·simp only [Act.put, List.setIfInBounds_toArray, List.set_cons_zero, List.set_cons_succ, i64_w, i32_w]
               rfl
              refine pure_ (i := 1) (N := some 50) (v := ?_) (a' := ?_) #[true, true, false, false, false, false, false, false, false, false, false, false, false, false] rfl rfl (any_of HT_.out (by kernel_rfl)) (fun _ _ _ h => h) (Or.inl ⟨by rfl, ?_⟩) ?_ ?_
              rotate_left
              ·intro w'
               go_simp
               with_reducible rfl
              rotate_left
              ·simp only [Act.put, List.setIfInBounds_toArray, List.set_cons_zero, List.set_cons_succ, i64_w, i32_w]
               rfl
              refine pure_ (i := 2) (N := some 51) (v := ?_) (a' := ?_) #[true, true, true, false, false, false, false, false, false, false, false, false, false, false] rfl rfl (any_of HT_.out (by kernel_rfl)) (fun _ _ _ h => h) (Or.inl ⟨by rfl, ?_⟩) ?_ ?_
              rotate_left
              ·intro w'
               go_simp
               with_reducible rfl
              rotate_left
              ·simp only [Act.put, List.setIfInBounds_toArray, List.set_cons_zero, List.set_cons_succ, i64_w, i32_w]
               rfl
              refine pure_ (i := 4) (N := some 53) (v := ?_) (a' := ?_) #[true, true, true, false, true, false, false, false, false, false, false, false, false, false] rfl rfl (any_of HT_.out (by kernel_rfl)) (fun _ _ _ h => h) (Or.inl ⟨by rfl, ?_⟩) ?_ ?_
              rotate_left
              ·intro w'
               go_simp
               with_reducible rfl
              rotate_left
              ·simp only [Act.put, List.setIfInBounds_toArray, List.set_cons_zero, List.set_cons_succ, i64_w, i32_w]
               rfl
              refine pure_ (i := 5) (N := some 54) (v := ?_) (a' := ?_) #[true, true, true, false, true, true, false, false, false, false, false, false, false, false] rfl rfl (any_of HT_.out (by kernel_rfl)) (fun _ _ _ h => h) (Or.inl ⟨by rfl, ?_⟩) ?_ ?_
              rotate_left
              ·intro w'
               go_simp
               with_reducible rfl
              rotate_left
              ·simp only [Act.put, List.setIfInBounds_toArray, List.set_cons_zero, List.set_cons_succ, i64_w, i32_w]
               rfl
              refine pure_ (i := 6) (N := some 55) (v := ?_) (a' := ?_) #[true, true, true, false, true, true, true, false, false, false, false, false, false, false] rfl rfl (any_of HT_.out (by kernel_rfl)) (fun _ _ _ h => h) (Or.inl ⟨by rfl, ?_⟩) ?_ ?_
              rotate_left
              ·intro w'
               go_simp
               with_reducible rfl
              rotate_left
              ·simp only [Act.put, List.setIfInBounds_toArray, List.set_cons_zero, List.set_cons_succ, i64_w, i32_w]
               rfl
              refine take_ (i := 3) (N := some 52) (v := ?_) (a' := ?_) #[true, true, true, true, true, true, true, false, false, false, false, false, false, false] rfl rfl (take_ofW HT_.out HW_.out (by kernel_rfl)) (fun _ _ _ h => h) (Or.inl ⟨by rfl, ?_⟩) hHeld ?_ ?_
              rotate_left
              ·rintro w' ⟨s0, s1, s2, s3⟩
               go_simp
               with_reducible rfl
              rotate_left
              ·simp only [Act.put, List.setIfInBounds_toArray, List.set_cons_zero, List.set_cons_succ, i64_w, i32_w]
               rfl
              refine take_ (i := 7) (N := some 56) (v := ?_) (a' := ?_) #[true, true, true, true, true, true, true, true, false, false, false, false, false, false] rfl rfl (take_ofW HT_.out HW_.out (by kernel_rfl)) (fun _ _ _ h => h) (Or.inl ⟨by rfl, ?_⟩) hHeld ?_ ?_
              rotate_left
              ·rintro w' ⟨s0, s1, s2, s3⟩
               go_simp
               with_reducible rfl
              rotate_left
              ·simp only [Act.put, List.setIfInBounds_toArray, List.set_cons_zero, List.set_cons_succ, i64_w, i32_w]
               rfl
              refine one_ (i := 8) (N := some 57) #[true, true, true, true, true, true, true, true, true, false, false, false, false, false] rfl rfl (one_of HT_.out (by kernel_rfl)) (by decide) (fun K hK => ?_)
              refine goes_ Tryd.func11 (by kernel_rfl) rfl #[.agg #[.int .i64 ((rd_T23 a3 a6).f0), .int .i64 ((rd_T23 a3 a6).f1)], .agg #[.int .i64 ((rd_T23 a3 c0).f0), .int .i64 ((rd_T23 a3 c0).f1)]] (by rfl) rfl rfl (by (try simp only [List.map_toArray, List.map_cons, List.map_nil]); first | done | rfl | (simp only [List.length_drop, List.length_take]; rfl)) ?_
              with_reducible refine (impl_RGCompare.calls ((rd_T23 a3 a6).f0) ((rd_T23 a3 a6).f1) ((rd_T23 a3 c0).f0) ((rd_T23 a3 c0).f1) o6 true _ A32.out).mono ?_
              rintro e w45 ⟨rfl, hb⟩
              have h0 := (hb.cell (World.block_lt_of_cell? _ _ (hHeld.1))).trans (hHeld.1)
              have h1 := (hb.cell (World.block_lt_of_cell? _ _ (hHeld.2.1))).trans (hHeld.2.1)
              have e9 := (hb.cell (World.block_lt_of_cell? _ _ (hHeld.2.2.1))).trans (hHeld.2.2.1)
              have f2 := (hb.cell (World.block_lt_of_cell? _ _ (hHeld.2.2.2))).trans (hHeld.2.2.2)
              refine ⟨_, rfl, ?_⟩
              have n0_ := aM (Kd.R_below (by (with_reducible repeat (first | apply Kd.R_alloc | apply Kd.R_drewN | apply Kd.R_drew)); exact b3.out) hb)
              have n1_ := aM (bB (g := b4) (o := .cells #[.int .i64 a0_0, .int .i64 a0_1] 23 (0, 0)) (by (with_reducible repeat (first | refine bN ?_ _ | refine bD ?_ | refine bA ?_ _)); exact a0.out) hb)
              have n2_ := aM (bB (g := b5) (o := .cells #[.int .i64 a1_0, .int .i64 a1_1] 23 (0, 0)) (by (with_reducible repeat (first | refine bN ?_ _ | refine bD ?_ | refine bA ?_ _)); exact a1.out) hb)
              have n3_ := aM (bB (g := b7) (o := .cells #[.int .i64 a2_0, .int .i64 a2_1] 23 (0, 0)) (by (with_reducible repeat (first | refine bN ?_ _ | refine bD ?_ | refine bA ?_ _)); exact a2.out) hb)
              have n4_ := aM (bB (g := b0) (o := .cells #[.int .i64 b2, .int .i64 a9] 23 (0, 0)) (by (with_reducible repeat (first | refine bN ?_ _ | refine bD ?_ | refine bA ?_ _)); exact a5.out) hb)
              have n5_ := aM (bB (g := b1) (o := .cells #[.int .i64 a8, .int .i64 a7] 23 (0, 0)) (by (with_reducible repeat (first | refine bN ?_ _ | refine bD ?_ | refine bA ?_ _)); exact a4.out) hb)
              have n6_ := aM (wP (by repeat (first | (with_reducible first | exact HB.out | apply wA | apply wN | apply wD | refine wS ?_ c4.out | refine wS ?_ c8.out | refine wS ?_ c9.out | refine wS ?_ d1.out | refine wS ?_ d2.out) | exact HB.out)) hb)
              clear b3
              clear a0
              clear a1
              clear a2
              clear a5
              clear a4
              clear HB
              have b3 := n0_
              have a0 := n1_
              have a1 := n2_
              have a2 := n3_
              have a5 := n4_
              have a4 := n5_
              have HB := n6_
              clear n0_ n1_ n2_ n3_ n4_ n5_ n6_
              (try clear hb)
              (try clear hb2)
              (try clear hk)
              (try clear hi)
              refine hK.out _ _ ⟨h0, h1, e9, f2⟩ (fun hHeld => ?_)
              clear hK K
              refine norm_ (a' := ?_) ?_ ?_
              rotate_left
              ·show Act.put _ (some 57) _ = _
               simp only [Act.put, List.setIfInBounds_toArray, List.set_cons_zero, List.set_cons_succ, i64_w, i32_w]
               rfl
              refine pure_ (i := 9) (N := some 48) (v := ?_) (a' := ?_) #[true, true, true, true, true, true, true, true, true, true, false, false, false, false] rfl rfl (any_of HT_.out (by kernel_rfl)) (fun _ _ _ h => h) (Or.inl ⟨by rfl, ?_⟩) ?_ ?_
              rotate_left
              ·intro w'
               go_simp
               with_reducible rfl
              rotate_left
              ·simp only [Act.put, List.setIfInBounds_toArray, List.set_cons_zero, List.set_cons_succ, i64_w, i32_w]
               rfl
              refine pure_ (i := 10) (N := some 58) (v := ?_) (a' := ?_) #[true, true, true, true, true, true, true, true, true, true, true, false, false, false] rfl rfl (any_of HT_.out (by kernel_rfl)) (fun _ _ _ h => h) (Or.inl ⟨by rfl, ?_⟩) ?_ ?_
              rotate_left
              ·intro w'
               go_simp
               with_reducible rfl
              rotate_left
              ·simp only [Act.put, List.setIfInBounds_toArray, List.set_cons_zero, List.set_cons_succ, i64_w, i32_w]
               rfl
              refine pure_ (i := 11) (N := some 59) (v := ?_) (a' := ?_) #[true, true, true, true, true, true, true, true, true, true, true, true, false, false] rfl rfl (any_of HT_.out (by kernel_rfl)) (fun _ _ _ h => h) (Or.inl ⟨by rfl, ?_⟩) ?_ ?_
              rotate_left
              ·intro w'
               go_simp
               with_reducible rfl
              rotate_left
              ·simp only [Act.put, List.setIfInBounds_toArray, List.set_cons_zero, List.set_cons_succ, i64_w, i32_w]
               rfl
              refine pure_ (i := 12) (N := some 12) (v := ?_) (a' := ?_) #[true, true, true, true, true, true, true, true, true, true, true, true, true, false] rfl rfl (any_of HT_.out (by kernel_rfl)) (fun _ _ _ h => h) (Or.inl ⟨by rfl, ?_⟩) ?_ ?_
              rotate_left
              ·intro w'
               go_simp
               with_reducible rfl
              rotate_left
              ·simp only [Act.put, List.setIfInBounds_toArray, List.set_cons_zero, List.set_cons_succ, i64_w, i32_w]
               rfl
              refine pure_ (i := 13) (N := some 13) (v := ?_) (a' := ?_) #[true, true, true, true, true, true, true, true, true, true, true, true, true, true] rfl rfl (any_of HT_.out (by kernel_rfl)) (fun _ _ _ h => h) (Or.inl ⟨by rfl, ?_⟩) ?_ ?_
              rotate_left
              ·intro w'
               go_simp
               with_reducible rfl
              rotate_left
              ·simp only [Act.put, List.setIfInBounds_toArray, List.set_cons_zero, List.set_cons_succ, i64_w, i32_w]
               rfl
              refine done_ (done_of HT_.out (by kernel_rfl)) ?_
              try go_wp2
              have n0_ := aM (Kd.R_drew b3.out)
              have n1_ := aM (bD a0.out)
              have n2_ := aM (bD a1.out)
              have n3_ := aM (bD a2.out)
              have n4_ := aM (bD a5.out)
              have n5_ := aM (bD a4.out)
              have n6_ := aM (wD HB.out)
              clear b3
              clear a0
              clear a1
              clear a2
              clear a5
              clear a4
              clear HB
              have b3 := n0_
              have a0 := n1_
              have a1 := n2_
              have a2 := n3_
              have a5 := n4_
              have a4 := n5_
              have HB := n6_
              clear n0_ n1_ n2_ n3_ n4_ n5_ n6_
              have p3 : 0 ≤ (a6 : Int) := of_decide_eq_true (by first | (with_reducible assumption) | assumption)
              have p4 : a6 < (a3.length : Int) := of_decide_eq_true (by first | (with_reducible assumption) | assumption)
              obtain ⟨s8, v0, n8, n9⟩ := at_T23 (Kd.R_reads' b3.out).2.2 a6 p3 p4
              obtain rfl : b9 = s8 := (by injection v0)
              replace p3 := eq_true p3
              replace p4 := eq_true p4
              have p5 : 0 ≤ (c0 : Int) := of_decide_eq_true (by first | (with_reducible assumption) | assumption)
              have p7 : c0 < (a3.length : Int) := of_decide_eq_true (by first | (with_reducible assumption) | assumption)
              obtain ⟨s9, v1, o0, o1⟩ := at_T23 (Kd.R_reads' b3.out).2.2 c0 p5 p7
              obtain rfl : b9 = s9 := (by injection v1)
              replace p5 := eq_true p5
              replace p7 := eq_true p7
              refine start_ (n := 19) (S := fun w' => w'.cell? (b9.add ((a6).toNat * 2)) = some (.int .i64 ((rd_T23 a3 a6).f0)) ∧ w'.cell? ⟨(b9.add ((a6).toNat * 2)).block, (b9.add ((a6).toNat * 2)).off + 1, none⟩ = some (.int .i64 ((rd_T23 a3 a6).f1)) ∧ w'.cell? (b9.add ((c0).toNat * 2)) = some (.int .i64 ((rd_T23 a3 c0).f0)) ∧ w'.cell? ⟨(b9.add ((c0).toNat * 2)).block, (b9.add ((c0).toNat * 2)).off + 1, none⟩ = some (.int .i64 ((rd_T23 a3 c0).f1))) (ds := []) #[false, false, false, false, false, false, false, false, false, false, false, false, false, false, false, false, false, false, false] (by kernel_rfl) rfl rfl ⟨n8, n9, o0, o1⟩ (fun hHeld => ?_); refine with_tabW laws_FnRGCuts.tab10 laws_FnRGCuts.bits10 (fun HT_ HW_ => ?_)
              generalize w45.drew = w46 at b3 a0 a1 a2 a5 a4 HB n8 n9 o0 o1 hHeld ⊢
              refine pure_ (i := 0) (N := some 60) (v := ?_) (a' := ?_) #[true, false, false, false, false, false, false, false, false, false, false, false, false, false, false, false, false, false, false] rfl rfl (any_of HT_.out (by kernel_rfl)) (fun _ _ _ h => h) (Or.inl ⟨by rfl, ?_⟩) ?_ ?_
              rotate_left
              ·intro w'
               go_simp
               with_reducible rfl
              rotate_left
              ·simp only [Act.put, List.setIfInBounds_toArray, List.set_cons_zero, List.set_cons_succ, i64_w, i32_w]
               rfl
              refine pure_ (i := 1) (N := some 61) (v := ?_) (a' := ?_) #[true, true, false, false, false, false, false, false, false, false, false, false, false, false, false, false, false, false, false] rfl rfl (any_of HT_.out (by kernel_rfl)) (fun _ _ _ h => h) (Or.inl ⟨by rfl, ?_⟩) ?_ ?_
              rotate_left
              ·intro w'
               go_simp
               with_reducible rfl
              rotate_left
              ·simp only [Act.put, List.setIfInBounds_toArray, List.set_cons_zero, List.set_cons_succ, i64_w, i32_w]
               rfl
              refine pure_ (i := 2) (N := some 62) (v := ?_) (a' := ?_) #[true, true, true, false, false, false, false, false, false, false, false, false, false, false, false, false, false, false, false] rfl rfl (any_of HT_.out (by kernel_rfl)) (fun _ _ _ h => h) (Or.inl ⟨by rfl, ?_⟩) ?_ ?_
              rotate_left
              ·intro w'
               go_simp
               with_reducible rfl
              rotate_left
              ·simp only [Act.put, List.setIfInBounds_toArray, List.set_cons_zero, List.set_cons_succ, i64_w, i32_w]
               rfl
              refine pure_ (i := 3) (N := some 63) (v := ?_) (a' := ?_) #[true, true, true, true, false, false, false, false, false, false, false, false, false, false, false, false, false, false, false] rfl rfl (any_of HT_.out (by kernel_rfl)) (fun _ _ _ h => h) (Or.inl ⟨by rfl, ?_⟩) ?_ ?_
              rotate_left
              ·intro w'
               go_simp
               with_reducible rfl
              rotate_left
              ·simp only [Act.put, List.setIfInBounds_toArray, List.set_cons_zero, List.set_cons_succ, i64_w, i32_w]
               rfl
              refine pure_ (i := 5) (N := some 65) (v := ?_) (a' := ?_) #[true, true, true, true, false, true, false, false, false, false, false, false, false, false, false, false, false, false, false] rfl rfl (any_of HT_.out (by kernel_rfl)) (fun _ _ _ h => h) (Or.inl ⟨by rfl, ?_⟩) ?_ ?_
              rotate_left
              ·intro w'
               go_simp
               with_reducible rfl
              rotate_left
              ·simp only [Act.put, List.setIfInBounds_toArray, List.set_cons_zero, List.set_cons_succ, i64_w, i32_w]
               rfl
              refine pure_ (i := 6) (N := some 66) (v := ?_) (a' := ?_) #[true, true, true, true, false, true, true, false, false, false, false, false, false, false, false, false, false, false, false] rfl rfl (any_of HT_.out (by kernel_rfl)) (fun _ _ _ h => h) (Or.inl ⟨by rfl, ?_⟩) ?_ ?_
              rotate_left
              ·intro w'
               go_simp
               with_reducible rfl
              rotate_left
              ·simp only [Act.put, List.setIfInBounds_toArray, List.set_cons_zero, List.set_cons_succ, i64_w, i32_w]
               rfl
              refine pure_ (i := 7) (N := some 67) (v := ?_) (a' := ?_) #[true, true, true, true, false, true, true, true, false, false, false, false, false, false, false, false, false, false, false] rfl rfl (any_of HT_.out (by kernel_rfl)) (fun _ _ _ h => h) (Or.inl ⟨by rfl, ?_⟩) ?_ ?_
              rotate_left
              ·intro w'
               go_simp
               with_reducible rfl
              rotate_left
              ·simp only [Act.put, List.setIfInBounds_toArray, List.set_cons_zero, List.set_cons_succ, i64_w, i32_w]
               rfl
              refine pure_ (i := 10) (N := some 70) (v := ?_) (a' := ?_) #[true, true, true, true, false, true, true, true, false, false, true, false, false, false, false, false, false, false, false] rfl rfl (any_of HT_.out (by kernel_rfl)) (fun _ _ _ h => h) (Or.inl ⟨by rfl, ?_⟩) ?_ ?_
              rotate_left
              ·intro w'
               go_simp
               with_reducible rfl
              rotate_left
              ·simp only [Act.put, List.setIfInBounds_toArray, List.set_cons_zero, List.set_cons_succ, i64_w, i32_w]
               rfl
              refine pure_ (i := 11) (N := some 71) (v := ?_) (a' := ?_) #[true, true, true, true, false, true, true, true, false, false, true, true, false, false, false, false, false, false, false] rfl rfl (any_of HT_.out (by kernel_rfl)) (fun _ _ _ h => h) (Or.inl ⟨by rfl, ?_⟩) ?_ ?_
              rotate_left
              ·intro w'
               go_simp
               with_reducible rfl
              rotate_left
              ·simp only [Act.put, List.setIfInBounds_toArray, List.set_cons_zero, List.set_cons_succ, i64_w, i32_w]
               rfl
              refine pure_ (i := 12) (N := some 72) (v := ?_) (a' := ?_) #[true, true, true, true, false, true, true, true, false, false, true, true, true, false, false, false, false, false, false] rfl rfl (any_of HT_.out (by kernel_rfl)) (fun _ _ _ h => h) (Or.inl ⟨by rfl, ?_⟩) ?_ ?_
              rotate_left
              ·intro w'
               go_simp
               with_reducible rfl
              rotate_left
              ·simp only [Act.put, List.setIfInBounds_toArray, List.set_cons_zero, List.set_cons_succ, i64_w, i32_w]
               rfl
              refine take_ (i := 8) (N := some 68) (v := ?_) (a' := ?_) #[true, true, true, true, false, true, true, true, true, false, true, true, true, false, false, false, false, false, false] rfl rfl (take_ofW HT_.out HW_.out (by kernel_rfl)) (fun _ _ _ h => h) (Or.inl ⟨by rfl, ?_⟩) hHeld ?_ ?_
              rotate_left
              ·rintro w' ⟨s0, s1, s2, s3⟩
               go_simp
               with_reducible rfl
              rotate_left
              ·simp only [Act.put, List.setIfInBounds_toArray, List.set_cons_zero, List.set_cons_succ, i64_w, i32_w]
               rfl
              refine take_ (i := 13) (N := some 73) (v := ?_) (a' := ?_) #[true, true, true, true, false, true, true, true, true, false, true, true, true, true, false, false, false, false, false] rfl rfl (take_ofW HT_.out HW_.out (by kernel_rfl)) (fun _ _ _ h => h) (Or.inl ⟨by rfl, ?_⟩) hHeld ?_ ?_
              rotate_left
              ·rintro w' ⟨s0, s1, s2, s3⟩
               go_simp
               with_reducible rfl
              rotate_left
              ·simp only [Act.put, List.setIfInBounds_toArray, List.set_cons_zero, List.set_cons_succ, i64_w, i32_w]
               rfl
              refine one_ (i := 4) (N := some 64) #[true, true, true, true, true, true, true, true, true, false, true, true, true, true, false, false, false, false, false] rfl rfl (one_of HT_.out (by kernel_rfl)) (by decide) (fun K hK => ?_)
              refine goes_ Tryd.func12 (by kernel_rfl) rfl #[.int .i64 o6] (by rfl) rfl rfl (by (try simp only [List.map_toArray, List.map_cons, List.map_nil]); first | done | rfl | (simp only [List.length_drop, List.length_take]; rfl)) ?_
              with_reducible refine (laws_sign.calls o6 m1 _ A34.out).mono ?_
              rintro e w' ⟨rfl, ⟨nd, rfl⟩⟩
              refine ⟨_, rfl, ?_⟩
              refine hK.out _ _ ⟨hHeld.1, hHeld.2.1, hHeld.2.2.1, hHeld.2.2.2⟩ (fun hHeld => ?_)
              clear hK K
              refine norm_ (a' := ?_) ?_ ?_
              rotate_left
              ·show Act.put _ (some 64) _ = _
               simp only [Act.put, List.setIfInBounds_toArray, List.set_cons_zero, List.set_cons_succ, i64_w, i32_w]
               rfl
              refine one_ (i := 9) (N := some 69) #[true, true, true, true, true, true, true, true, true, true, true, true, true, true, false, false, false, false, false] rfl rfl (one_of HT_.out (by kernel_rfl)) (by decide) (fun K hK => ?_)
              refine goes_ Tryd.func13 (by kernel_rfl) rfl #[.agg #[.int .i64 ((rd_T23 a3 a6).f0), .int .i64 ((rd_T23 a3 a6).f1)]] (by rfl) rfl rfl (by (try simp only [List.map_toArray, List.map_cons, List.map_nil]); first | done | rfl | (simp only [List.length_drop, List.length_take]; rfl)) ?_
              with_reducible refine (spec_RGPlace.calls k2 ((rd_T23 a3 a6).f0) ((rd_T23 a3 a6).f1) m6 _ A35.out).mono ?_
              rintro e w47 ⟨rfl, hb⟩
              have h0 := (hb.cell (World.block_lt_of_cell? _ _ (hHeld.1))).trans (hHeld.1)
              have h1 := (hb.cell (World.block_lt_of_cell? _ _ (hHeld.2.1))).trans (hHeld.2.1)
              have e9 := (hb.cell (World.block_lt_of_cell? _ _ (hHeld.2.2.1))).trans (hHeld.2.2.1)
              have f2 := (hb.cell (World.block_lt_of_cell? _ _ (hHeld.2.2.2))).trans (hHeld.2.2.2)
              refine ⟨_, rfl, ?_⟩
              have n0_ := aM (Kd.R_below (by (with_reducible repeat (first | apply Kd.R_alloc | apply Kd.R_drewN | apply Kd.R_drew)); exact b3.out) hb)
              have n1_ := aM (bB (g := b4) (o := .cells #[.int .i64 a0_0, .int .i64 a0_1] 23 (0, 0)) (by (with_reducible repeat (first | refine bN ?_ _ | refine bD ?_ | refine bA ?_ _)); exact a0.out) hb)
              have n2_ := aM (bB (g := b5) (o := .cells #[.int .i64 a1_0, .int .i64 a1_1] 23 (0, 0)) (by (with_reducible repeat (first | refine bN ?_ _ | refine bD ?_ | refine bA ?_ _)); exact a1.out) hb)
              have n3_ := aM (bB (g := b7) (o := .cells #[.int .i64 a2_0, .int .i64 a2_1] 23 (0, 0)) (by (with_reducible repeat (first | refine bN ?_ _ | refine bD ?_ | refine bA ?_ _)); exact a2.out) hb)
              have n4_ := aM (bB (g := b0) (o := .cells #[.int .i64 b2, .int .i64 a9] 23 (0, 0)) (by (with_reducible repeat (first | refine bN ?_ _ | refine bD ?_ | refine bA ?_ _)); exact a5.out) hb)
              have n5_ := aM (bB (g := b1) (o := .cells #[.int .i64 a8, .int .i64 a7] 23 (0, 0)) (by (with_reducible repeat (first | refine bN ?_ _ | refine bD ?_ | refine bA ?_ _)); exact a4.out) hb)
              have n6_ := aM (wP (by repeat (first | (with_reducible first | exact HB.out | apply wA | apply wN | apply wD | refine wS ?_ c4.out | refine wS ?_ c8.out | refine wS ?_ c9.out | refine wS ?_ d1.out | refine wS ?_ d2.out) | exact HB.out)) hb)
              clear b3
              clear a0
              clear a1
              clear a2
              clear a5
              clear a4
              clear HB
              have b3 := n0_
              have a0 := n1_
              have a1 := n2_
              have a2 := n3_
              have a5 := n4_
              have a4 := n5_
              have HB := n6_
              clear n0_ n1_ n2_ n3_ n4_ n5_ n6_
              (try clear hb)
              (try clear hb2)
              (try clear hk)
              (try clear hi)
              refine hK.out _ _ ⟨h0, h1, e9, f2⟩ (fun hHeld => ?_)
              clear hK K
              refine norm_ (a' := ?_) ?_ ?_
              rotate_left
              ·show Act.put _ (some 69) _ = _
               simp only [Act.put, List.setIfInBounds_toArray, List.set_cons_zero, List.set_cons_succ, i64_w, i32_w]
               rfl
              refine one_ (i := 14) (N := some 74) #[true, true, true, true, true, true, true, true, true, true, true, true, true, true, true, false, false, false, false] rfl rfl (one_of HT_.out (by kernel_rfl)) (by decide) (fun K hK => ?_)
              refine goes_ Tryd.func13 (by kernel_rfl) rfl #[.agg #[.int .i64 ((rd_T23 a3 c0).f0), .int .i64 ((rd_T23 a3 c0).f1)]] (by rfl) rfl rfl (by (try simp only [List.map_toArray, List.map_cons, List.map_nil]); first | done | rfl | (simp only [List.length_drop, List.length_take]; rfl)) ?_
              with_reducible refine (spec_RGPlace.calls k2 ((rd_T23 a3 c0).f0) ((rd_T23 a3 c0).f1) m2 _ A36.out).mono ?_
              rintro e w48 ⟨rfl, hb⟩
              have h0 := (hb.cell (World.block_lt_of_cell? _ _ (hHeld.1))).trans (hHeld.1)
              have h1 := (hb.cell (World.block_lt_of_cell? _ _ (hHeld.2.1))).trans (hHeld.2.1)
              have e9 := (hb.cell (World.block_lt_of_cell? _ _ (hHeld.2.2.1))).trans (hHeld.2.2.1)
              have f2 := (hb.cell (World.block_lt_of_cell? _ _ (hHeld.2.2.2))).trans (hHeld.2.2.2)
              refine ⟨_, rfl, ?_⟩
              have n0_ := aM (Kd.R_below (by (with_reducible repeat (first | apply Kd.R_alloc | apply Kd.R_drewN | apply Kd.R_drew)); exact b3.out) hb)
              have n1_ := aM (bB (g := b4) (o := .cells #[.int .i64 a0_0, .int .i64 a0_1] 23 (0, 0)) (by (with_reducible repeat (first | refine bN ?_ _ | refine bD ?_ | refine bA ?_ _)); exact a0.out) hb)
              have n2_ := aM (bB (g := b5) (o := .cells #[.int .i64 a1_0, .int .i64 a1_1] 23 (0, 0)) (by (with_reducible repeat (first | refine bN ?_ _ | refine bD ?_ | refine bA ?_ _)); exact a1.out) hb)
              have n3_ := aM (bB (g := b7) (o := .cells #[.int .i64 a2_0, .int .i64 a2_1] 23 (0, 0)) (by (with_reducible repeat (first | refine bN ?_ _ | refine bD ?_ | refine bA ?_ _)); exact a2.out) hb)
              have n4_ := aM (bB (g := b0) (o := .cells #[.int .i64 b2, .int .i64 a9] 23 (0, 0)) (by (with_reducible repeat (first | refine bN ?_ _ | refine bD ?_ | refine bA ?_ _)); exact a5.out) hb)
              have n5_ := aM (bB (g := b1) (o := .cells #[.int .i64 a8, .int .i64 a7] 23 (0, 0)) (by (with_reducible repeat (first | refine bN ?_ _ | refine bD ?_ | refine bA ?_ _)); exact a4.out) hb)
              have n6_ := aM (wP (by repeat (first | (with_reducible first | exact HB.out | apply wA | apply wN | apply wD | refine wS ?_ c4.out | refine wS ?_ c8.out | refine wS ?_ c9.out | refine wS ?_ d1.out | refine wS ?_ d2.out) | exact HB.out)) hb)
              clear b3
              clear a0
              clear a1
              clear a2
              clear a5
              clear a4
              clear HB
              have b3 := n0_
              have a0 := n1_
              have a1 := n2_
              have a2 := n3_
              have a5 := n4_
              have a4 := n5_
              have HB := n6_
              clear n0_ n1_ n2_ n3_ n4_ n5_ n6_
              (try clear hb)
              (try clear hb2)
              (try clear hk)
              (try clear hi)
              refine hK.out _ _ ⟨h0, h1, e9, f2⟩ (fun hHeld => ?_)
              clear hK K
              refine norm_ (a' := ?_) ?_ ?_
              rotate_left
              ·show Act.put _ (some 74) _ = _
               simp only [Act.put, List.setIfInBounds_toArray, List.set_cons_zero, List.set_cons_succ, i64_w, i32_w]
               rfl
              refine pure_ (i := 15) (N := some 75) (v := ?_) (a' := ?_) #[true, true, true, true, true, true, true, true, true, true, true, true, true, true, true, true, false, false, false] rfl rfl (any_of HT_.out (by kernel_rfl)) (fun _ _ _ h => h) (Or.inl ⟨by rfl, ?_⟩) ?_ ?_
              rotate_left
              ·intro w'
               go_simp
               with_reducible rfl
              rotate_left
              ·simp only [Act.put, List.setIfInBounds_toArray, List.set_cons_zero, List.set_cons_succ, i64_w, i32_w]
               rfl
              refine one_ (i := 16) (N := some 76) #[true, true, true, true, true, true, true, true, true, true, true, true, true, true, true, true, true, false, false] rfl rfl (one_of HT_.out (by kernel_rfl)) (by decide) (fun K hK => ?_)
              refine goes_ Tryd.func12 (by kernel_rfl) rfl #[.int .i64 (wrap64 (m6 - m2))] (by rfl) rfl rfl (by (try simp only [List.map_toArray, List.map_cons, List.map_nil]); first | done | rfl | (simp only [List.length_drop, List.length_take]; rfl)) ?_
              with_reducible refine (laws_sign.calls (wrap64 (m6 - m2)) h5 _ A37.out).mono ?_
              rintro e w' ⟨rfl, ⟨nd, rfl⟩⟩
              refine ⟨_, rfl, ?_⟩
              refine hK.out _ _ ⟨hHeld.1, hHeld.2.1, hHeld.2.2.1, hHeld.2.2.2⟩ (fun hHeld => ?_)
              clear hK K
              refine norm_ (a' := ?_) ?_ ?_
              rotate_left
              ·show Act.put _ (some 76) _ = _
               simp only [Act.put, List.setIfInBounds_toArray, List.set_cons_zero, List.set_cons_succ, i64_w, i32_w]
               rfl
              refine pure_ (i := 17) (N := some 77) (v := ?_) (a' := ?_) #[true, true, true, true, true, true, true, true, true, true, true, true, true, true, true, true, true, true, false] rfl rfl (any_of HT_.out (by kernel_rfl)) (fun _ _ _ h => h) (Or.inl ⟨by rfl, ?_⟩) ?_ ?_
              rotate_left
              ·intro w'
               go_simp
               with_reducible rfl
              rotate_left
              ·simp only [Act.put, List.setIfInBounds_toArray, List.set_cons_zero, List.set_cons_succ, i64_w, i32_w]
               rfl
              refine pure_ (i := 18) (N := some 78) (v := ?_) (a' := ?_) #[true, true, true, true, true, true, true, true, true, true, true, true, true, true, true, true, true, true, true] rfl rfl (any_of HT_.out (by kernel_rfl)) (fun _ _ _ h => h) (Or.inl ⟨by rfl, ?_⟩) ?_ ?_
              rotate_left
              ·intro w'
               go_simp
               with_reducible rfl
              rotate_left
              ·simp only [Act.put, List.setIfInBounds_toArray, List.set_cons_zero, List.set_cons_succ, i64_w, i32_w]
               rfl
              refine done_ (done_of HT_.out (by kernel_rfl)) ?_
              try go_wp2
              go_ret
              exact ⟨by first | rfl | (simp [errW_none, errW_some] <;> rfl) | (simp [*, errW_none, errW_some] <;> rfl), by repeat (first | (with_reducible first | exact HB.out | apply wA | apply wN | apply wD | refine wS ?_ c4.out | refine wS ?_ c8.out | refine wS ?_ c9.out | refine wS ?_ d1.out | refine wS ?_ d2.out) | exact HB.out)⟩
            ·replace c33 := Bool.eq_false_iff.mpr c33
             subst c33
             have H1 : (some false) = some r := by rw [if_neg (show ¬ (false = true) by decide)] at H; exact H
             clear H
             have H := H1
             clear H1
             obtain rfl := Option.some.inj H
             try go_wp2
             have n0_ := aM (Kd.R_drew b3.out)
             have n1_ := aM (bD a0.out)
             have n2_ := aM (bD a1.out)
             have n3_ := aM (bD a2.out)
             have n4_ := aM (bD a5.out)
             have n5_ := aM (bD a4.out)
             have n6_ := aM (wD HB.out)
             clear b3
             clear a0
             clear a1
             clear a2
             clear a5
             clear a4
             clear HB
             have b3 := n0_
             have a0 := n1_
             have a1 := n2_
             have a2 := n3_
             have a5 := n4_
             have a4 := n5_
             have HB := n6_
             clear n0_ n1_ n2_ n3_ n4_ n5_ n6_
             have n1 : 0 ≤ (a6 : Int) := of_decide_eq_true (by first | (with_reducible assumption) | assumption)
             have n2 : a6 < (a3.length : Int) := of_decide_eq_true (by first | (with_reducible assumption) | assumption)
             obtain ⟨q7, s6, l7, l8⟩ := at_T23 (Kd.R_reads' b3.out).2.2 a6 n1 n2
             obtain rfl : b9 = q7 := (by injection s6)
             replace n1 := eq_true n1
             replace n2 := eq_true n2
             have n3 : 0 ≤ (c0 : Int) := of_decide_eq_true (by first | (with_reducible assumption) | assumption)
             have n4 : c0 < (a3.length : Int) := of_decide_eq_true (by first | (with_reducible assumption) | assumption)
             obtain ⟨q8, s7, l9, m0⟩ := at_T23 (Kd.R_reads' b3.out).2.2 c0 n3 n4
             obtain rfl : b9 = q8 := (by injection s7)
             replace n3 := eq_true n3
             replace n4 := eq_true n4
             refine start_ (n := 14) (S := fun w' => w'.cell? (b9.add ((a6).toNat * 2)) = some (.int .i64 ((rd_T23 a3 a6).f0)) ∧ w'.cell? ⟨(b9.add ((a6).toNat * 2)).block, (b9.add ((a6).toNat * 2)).off + 1, none⟩ = some (.int .i64 ((rd_T23 a3 a6).f1)) ∧ w'.cell? (b9.add ((c0).toNat * 2)) = some (.int .i64 ((rd_T23 a3 c0).f0)) ∧ w'.cell? ⟨(b9.add ((c0).toNat * 2)).block, (b9.add ((c0).toNat * 2)).off + 1, none⟩ = some (.int .i64 ((rd_T23 a3 c0).f1))) (ds := []) #[false, false, false, false, false, false, false, false, false, false, false, false, false, false] (by kernel_rfl) rfl rfl ⟨l7, l8, l9, m0⟩ (fun hHeld => ?_); refine with_tabW laws_FnRGCuts.tab9 laws_FnRGCuts.bits9 (fun HT_ HW_ => ?_)
             generalize wr.drew = w49 at b3 a0 a1 a2 a5 a4 HB l7 l8 l9 m0 hHeld ⊢
             refine pure_ (i := 0) (N := some 49) (v := ?_) (a' := ?_) #[true, false, false, false, false, false, false, false, false, false, false, false, false, false] rfl rfl (any_of HT_.out (by kernel_rfl)) (fun _ _ _ h => h) (Or.inl ⟨by rfl, ?_⟩) ?_ ?_
             rotate_left
             ·intro w'
              go_simp
              with_reducible rfl
             rotate_left
             ·simp only [Act.put, List.setIfInBounds_toArray, List.set_cons_zero, List.set_cons_succ, i64_w, i32_w]
              rfl
             refine pure_ (i := 1) (N := some 50) (v := ?_) (a' := ?_) #[true, true, false, false, false, false, false, false, false, false, false, false, false, false] rfl rfl (any_of HT_.out (by kernel_rfl)) (fun _ _ _ h => h) (Or.inl ⟨by rfl, ?_⟩) ?_ ?_
             rotate_left
             ·intro w'
              go_simp
              with_reducible rfl
             rotate_left
             ·simp only [Act.put, List.setIfInBounds_toArray, List.set_cons_zero, List.set_cons_succ, i64_w, i32_w]
              rfl
             refine pure_ (i := 2) (N := some 51) (v := ?_) (a' := ?_) #[true, true, true, false, false, false, false, false, false, false, false, false, false, false] rfl rfl (any_of HT_.out (by kernel_rfl)) (fun _ _ _ h => h) (Or.inl ⟨by rfl, ?_⟩) ?_ ?_
             rotate_left
             ·intro w'
              go_simp
              with_reducible rfl
             rotate_left
             ·simp only [Act.put, List.setIfInBounds_toArray, List.set_cons_zero, List.set_cons_succ, i64_w, i32_w]
              rfl
             refine pure_ (i := 4) (N := some 53) (v := ?_) (a' := ?_) #[true, true, true, false, true, false, false, false, false, false, false, false, false, false] rfl rfl (any_of HT_.out (by kernel_rfl)) (fun _ _ _ h => h) (Or.inl ⟨by rfl, ?_⟩) ?_ ?_
             rotate_left
             ·intro w'
              go_simp
              with_reducible rfl
             rotate_left
             ·simp only [Act.put, List.setIfInBounds_toArray, List.set_cons_zero, List.set_cons_succ, i64_w, i32_w]
              rfl
             refine pure_ (i := 5) (N := some 54) (v := ?_) (a' := ?_) #[true, true, true, false, true, true, false, false, false, false, false, false, false, false] rfl rfl (any_of HT_.out (by kernel_rfl)) (fun _ _ _ h => h) (Or.inl ⟨by rfl, ?_⟩) ?_ ?_
             rotate_left
             ·intro w'
              go_simp
              with_reducible rfl
             rotate_left
             ·simp only [Act.put, List.setIfInBounds_toArray, List.set_cons_zero, List.set_cons_succ, i64_w, i32_w]
              rfl
             refine pure_ (i := 6) (N := some 55) (v := ?_) (a' := ?_) #[true, true, true, false, true, true, true, false, false, false, false, false, false, false] rfl rfl (any_of HT_.out (by kernel_rfl)) (fun _ _ _ h => h) (Or.inl ⟨by rfl, ?_⟩) ?_ ?_
             rotate_left
             ·intro w'
              go_simp
              with_reducible rfl
             rotate_left
             ·simp only [Act.put, List.setIfInBounds_toArray, List.set_cons_zero, List.set_cons_succ, i64_w, i32_w]
              rfl
             refine take_ (i := 3) (N := some 52) (v := ?_) (a' := ?_) #[true, true, true, true, true, true, true, false, false, false, false, false, false, false] rfl rfl (take_ofW HT_.out HW_.out (by kernel_rfl)) (fun _ _ _ h => h) (Or.inl ⟨by rfl, ?_⟩) hHeld ?_ ?_
             rotate_left
             ·rintro w' ⟨s0, s1, s2, s3⟩
              go_simp
              with_reducible rfl
             rotate_left
             ·simp only [Act.put, List.setIfInBounds_toArray, List.set_cons_zero, List.set_cons_succ, i64_w, i32_w]
              rfl
             refine take_ (i := 7) (N := some 56) (v := ?_) (a' := ?_) #[true, true, true, true, true, true, true, true, false, false, false, false, false, false] rfl rfl (take_ofW HT_.out HW_.out (by kernel_rfl)) (fun _ _ _ h => h) (Or.inl ⟨by rfl, ?_⟩) hHeld ?_ ?_
             rotate_left
             ·rintro w' ⟨s0, s1, s2, s3⟩
              go_simp
              with_reducible rfl
             rotate_left
             ·simp only [Act.put, List.setIfInBounds_toArray, List.set_cons_zero, List.set_cons_succ, i64_w, i32_w]
              rfl
             refine one_ (i := 8) (N := some 57) #[true, true, true, true, true, true, true, true, true, false, false, false, false, false] rfl rfl (one_of HT_.out (by kernel_rfl)) (by decide) (fun K hK => ?_)
             refine goes_ Tryd.func11 (by kernel_rfl) rfl #[.agg #[.int .i64 ((rd_T23 a3 a6).f0), .int .i64 ((rd_T23 a3 a6).f1)], .agg #[.int .i64 ((rd_T23 a3 c0).f0), .int .i64 ((rd_T23 a3 c0).f1)]] (by rfl) rfl rfl (by (try simp only [List.map_toArray, List.map_cons, List.map_nil]); first | done | rfl | (simp only [List.length_drop, List.length_take]; rfl)) ?_
             with_reducible refine (impl_RGCompare.calls ((rd_T23 a3 a6).f0) ((rd_T23 a3 a6).f1) ((rd_T23 a3 c0).f0) ((rd_T23 a3 c0).f1) o6 false _ A32.out).mono ?_
             rintro e w50 ⟨rfl, hb⟩
             have h0 := (hb.cell (World.block_lt_of_cell? _ _ (hHeld.1))).trans (hHeld.1)
             have h1 := (hb.cell (World.block_lt_of_cell? _ _ (hHeld.2.1))).trans (hHeld.2.1)
             have e9 := (hb.cell (World.block_lt_of_cell? _ _ (hHeld.2.2.1))).trans (hHeld.2.2.1)
             have f2 := (hb.cell (World.block_lt_of_cell? _ _ (hHeld.2.2.2))).trans (hHeld.2.2.2)
             refine ⟨_, rfl, ?_⟩
             have n0_ := aM (Kd.R_below (by (with_reducible repeat (first | apply Kd.R_alloc | apply Kd.R_drewN | apply Kd.R_drew)); exact b3.out) hb)
             have n1_ := aM (bB (g := b4) (o := .cells #[.int .i64 a0_0, .int .i64 a0_1] 23 (0, 0)) (by (with_reducible repeat (first | refine bN ?_ _ | refine bD ?_ | refine bA ?_ _)); exact a0.out) hb)
             have n2_ := aM (bB (g := b5) (o := .cells #[.int .i64 a1_0, .int .i64 a1_1] 23 (0, 0)) (by (with_reducible repeat (first | refine bN ?_ _ | refine bD ?_ | refine bA ?_ _)); exact a1.out) hb)
             have n3_ := aM (bB (g := b7) (o := .cells #[.int .i64 a2_0, .int .i64 a2_1] 23 (0, 0)) (by (with_reducible repeat (first | refine bN ?_ _ | refine bD ?_ | refine bA ?_ _)); exact a2.out) hb)
             have n4_ := aM (bB (g := b0) (o := .cells #[.int .i64 b2, .int .i64 a9] 23 (0, 0)) (by (with_reducible repeat (first | refine bN ?_ _ | refine bD ?_ | refine bA ?_ _)); exact a5.out) hb)
             have n5_ := aM (bB (g := b1) (o := .cells #[.int .i64 a8, .int .i64 a7] 23 (0, 0)) (by (with_reducible repeat (first | refine bN ?_ _ | refine bD ?_ | refine bA ?_ _)); exact a4.out) hb)
             have n6_ := aM (wP (by repeat (first | (with_reducible first | exact HB.out | apply wA | apply wN | apply wD | refine wS ?_ c4.out | refine wS ?_ c8.out | refine wS ?_ c9.out | refine wS ?_ d1.out | refine wS ?_ d2.out) | exact HB.out)) hb)
             clear b3
             clear a0
             clear a1
             clear a2
             clear a5
             clear a4
             clear HB
             have b3 := n0_
             have a0 := n1_
             have a1 := n2_
             have a2 := n3_
             have a5 := n4_
             have a4 := n5_
             have HB := n6_
             clear n0_ n1_ n2_ n3_ n4_ n5_ n6_
             (try clear hb)
             (try clear hb2)
             (try clear hk)
             (try clear hi)
             refine hK.out _ _ ⟨h0, h1, e9, f2⟩ (fun hHeld => ?_)
             clear hK K
             refine norm_ (a' := ?_) ?_ ?_
             rotate_left
             ·show Act.put _ (some 57) _ = _
              simp only [Act.put, List.setIfInBounds_toArray, List.set_cons_zero, List.set_cons_succ, i64_w, i32_w]
              rfl
             refine pure_ (i := 9) (N := some 48) (v := ?_) (a' := ?_) #[true, true, true, true, true, true, true, true, true, true, false, false, false, false] rfl rfl (any_of HT_.out (by kernel_rfl)) (fun _ _ _ h => h) (Or.inl ⟨by rfl, ?_⟩) ?_ ?_
             rotate_left
             ·intro w'
              go_simp
              with_reducible rfl
             rotate_left
             ·simp only [Act.put, List.setIfInBounds_toArray, List.set_cons_zero, List.set_cons_succ, i64_w, i32_w]
              rfl
             refine pure_ (i := 10) (N := some 58) (v := ?_) (a' := ?_) #[true, true, true, true, true, true, true, true, true, true, true, false, false, false] rfl rfl (any_of HT_.out (by kernel_rfl)) (fun _ _ _ h => h) (Or.inl ⟨by rfl, ?_⟩) ?_ ?_
             rotate_left
             ·intro w'
              go_simp
              with_reducible rfl
             rotate_left
             ·simp only [Act.put, List.setIfInBounds_toArray, List.set_cons_zero, List.set_cons_succ, i64_w, i32_w]
              rfl
             refine pure_ (i := 11) (N := some 59) (v := ?_) (a' := ?_) #[true, true, true, true, true, true, true, true, true, true, true, true, false, false] rfl rfl (any_of HT_.out (by kernel_rfl)) (fun _ _ _ h => h) (Or.inl ⟨by rfl, ?_⟩) ?_ ?_
             rotate_left
             ·intro w'
              go_simp
              with_reducible rfl
             rotate_left
             ·simp only [Act.put, List.setIfInBounds_toArray, List.set_cons_zero, List.set_cons_succ, i64_w, i32_w]
              rfl
             refine pure_ (i := 12) (N := some 12) (v := ?_) (a' := ?_) #[true, true, true, true, true, true, true, true, true, true, true, true, true, false] rfl rfl (any_of HT_.out (by kernel_rfl)) (fun _ _ _ h => h) (Or.inl ⟨by rfl, ?_⟩) ?_ ?_
             rotate_left
             ·intro w'
              go_simp
              with_reducible rfl
             rotate_left
             ·simp only [Act.put, List.setIfInBounds_toArray, List.set_cons_zero, List.set_cons_succ, i64_w, i32_w]
              rfl
             refine pure_ (i := 13) (N := some 13) (v := ?_) (a' := ?_) #[true, true, true, true, true, true, true, true, true, true, true, true, true, true] rfl rfl (any_of HT_.out (by kernel_rfl)) (fun _ _ _ h => h) (Or.inl ⟨by rfl, ?_⟩) ?_ ?_
             rotate_left
             ·intro w'
              go_simp
              with_reducible rfl
             rotate_left
             ·simp only [Act.put, List.setIfInBounds_toArray, List.set_cons_zero, List.set_cons_succ, i64_w, i32_w]
              rfl
             refine done_ (done_of HT_.out (by kernel_rfl)) ?_
             try go_wp2
             have n0_ := aM (Kd.R_drew b3.out)
             have n1_ := aM (bD a0.out)
             have n2_ := aM (bD a1.out)
             have n3_ := aM (bD a2.out)
             have n4_ := aM (bD a5.out)
             have n5_ := aM (bD a4.out)
             have n6_ := aM (wD HB.out)
             clear b3
             clear a0
             clear a1
             clear a2
             clear a5
             clear a4
             clear HB
             have b3 := n0_
             have a0 := n1_
             have a1 := n2_
             have a2 := n3_
             have a5 := n4_
             have a4 := n5_
             have HB := n6_
             clear n0_ n1_ n2_ n3_ n4_ n5_ n6_
             refine start_ (n := 19) (S := fun w' => True) (ds := []) #[false, false, false, false, false, false, false, false, false, false, false, false, false, false, false, false, false, false, false] (by kernel_rfl) rfl rfl trivial (fun hHeld => ?_); refine with_tabW laws_FnRGCuts.tab10 laws_FnRGCuts.bits10 (fun HT_ HW_ => ?_)
             generalize w50.drew = w51 at b3 a0 a1 a2 a5 a4 HB hHeld ⊢
             refine pure_ (i := 0) (N := some 60) (v := ?_) (a' := ?_) #[true, false, false, false, false, false, false, false, false, false, false, false, false, false, false, false, false, false, false] rfl rfl (any_of HT_.out (by kernel_rfl)) (fun _ _ _ h => h) (Or.inl ⟨by rfl, ?_⟩) ?_ ?_
             rotate_left
             ·intro w'
              go_simp
              with_reducible rfl
             rotate_left
             ·simp only [Act.put, List.setIfInBounds_toArray, List.set_cons_zero, List.set_cons_succ, i64_w, i32_w]
              rfl
             refine pure_ (i := 1) (N := some 61) (v := ?_) (a' := ?_) #[true, true, false, false, false, false, false, false, false, false, false, false, false, false, false, false, false, false, false] rfl rfl (any_of HT_.out (by kernel_rfl)) (fun _ _ _ h => h) (Or.inl ⟨by rfl, ?_⟩) ?_ ?_
             rotate_left
             ·intro w'
              go_simp
              with_reducible rfl
             rotate_left
             ·simp only [Act.put, List.setIfInBounds_toArray, List.set_cons_zero, List.set_cons_succ, i64_w, i32_w]
              rfl
             refine pure_ (i := 2) (N := some 62) (v := ?_) (a' := ?_) #[true, true, true, false, false, false, false, false, false, false, false, false, false, false, false, false, false, false, false] rfl rfl (any_of HT_.out (by kernel_rfl)) (fun _ _ _ h => h) (Or.inl ⟨by rfl, ?_⟩) ?_ ?_
             rotate_left
             ·intro w'
              go_simp
              with_reducible rfl
             rotate_left
             ·simp only [Act.put, List.setIfInBounds_toArray, List.set_cons_zero, List.set_cons_succ, i64_w, i32_w]
              rfl
             refine pure_ (i := 3) (N := some 63) (v := undef) (a' := ?_) #[true, true, true, true, false, false, false, false, false, false, false, false, false, false, false, false, false, false, false] rfl rfl (any_of HT_.out (by kernel_rfl)) (fun _ _ _ h => h) (Or.inr ⟨by rfl, rfl⟩) ?_ ?_
             rotate_left
             ·simp only [Act.put, List.setIfInBounds_toArray, List.set_cons_zero, List.set_cons_succ, i64_w, i32_w]
              rfl
             refine pure_ (i := 4) (N := some 64) (v := undef) (a' := ?_) #[true, true, true, true, true, false, false, false, false, false, false, false, false, false, false, false, false, false, false] rfl rfl (any_of HT_.out (by kernel_rfl)) (fun _ _ _ h => h) (Or.inr ⟨by rfl, rfl⟩) ?_ ?_
             rotate_left
             ·simp only [Act.put, List.setIfInBounds_toArray, List.set_cons_zero, List.set_cons_succ, i64_w, i32_w]
              rfl
             refine pure_ (i := 5) (N := some 65) (v := undef) (a' := ?_) #[true, true, true, true, true, true, false, false, false, false, false, false, false, false, false, false, false, false, false] rfl rfl (any_of HT_.out (by kernel_rfl)) (fun _ _ _ h => h) (Or.inr ⟨by rfl, rfl⟩) ?_ ?_
             rotate_left
             ·simp only [Act.put, List.setIfInBounds_toArray, List.set_cons_zero, List.set_cons_succ, i64_w, i32_w]
              rfl
             refine pure_ (i := 6) (N := some 66) (v := undef) (a' := ?_) #[true, true, true, true, true, true, true, false, false, false, false, false, false, false, false, false, false, false, false] rfl rfl (any_of HT_.out (by kernel_rfl)) (fun _ _ _ h => h) (Or.inr ⟨by rfl, rfl⟩) ?_ ?_
             rotate_left
             ·simp only [Act.put, List.setIfInBounds_toArray, List.set_cons_zero, List.set_cons_succ, i64_w, i32_w]
              rfl
             refine pure_ (i := 7) (N := some 67) (v := undef) (a' := ?_) #[true, true, true, true, true, true, true, true, false, false, false, false, false, false, false, false, false, false, false] rfl rfl (any_of HT_.out (by kernel_rfl)) (fun _ _ _ h => h) (Or.inr ⟨by rfl, rfl⟩) ?_ ?_
             rotate_left
             ·simp only [Act.put, List.setIfInBounds_toArray, List.set_cons_zero, List.set_cons_succ, i64_w, i32_w]
              rfl
             refine pure_ (i := 8) (N := some 68) (v := undef) (a' := ?_) #[true, true, true, true, true, true, true, true, true, false, false, false, false, false, false, false, false, false, false] rfl rfl (any_of HT_.out (by kernel_rfl)) (fun _ _ _ h => h) (Or.inr ⟨by rfl, rfl⟩) ?_ ?_
             rotate_left
             ·simp only [Act.put, List.setIfInBounds_toArray, List.set_cons_zero, List.set_cons_succ, i64_w, i32_w]
              rfl
             refine pure_ (i := 9) (N := some 69) (v := undef) (a' := ?_) #[true, true, true, true, true, true, true, true, true, true, false, false, false, false, false, false, false, false, false] rfl rfl (any_of HT_.out (by kernel_rfl)) (fun _ _ _ h => h) (Or.inr ⟨by rfl, rfl⟩) ?_ ?_
             rotate_left
             ·simp only [Act.put, List.setIfInBounds_toArray, List.set_cons_zero, List.set_cons_succ, i64_w, i32_w]
              rfl
             refine pure_ (i := 10) (N := some 70) (v := undef) (a' := ?_) #[true, true, true, true, true, true, true, true, true, true, true, false, false, false, false, false, false, false, false] rfl rfl (any_of HT_.out (by kernel_rfl)) (fun _ _ _ h => h) (Or.inr ⟨by rfl, rfl⟩) ?_ ?_
             rotate_left
             ·simp only [Act.put, List.setIfInBounds_toArray, List.set_cons_zero, List.set_cons_succ, i64_w, i32_w]
              rfl
             refine pure_ (i := 11) (N := some 71) (v := undef) (a' := ?_) #[true, true, true, true, true, true, true, true, true, true, true, true, false, false, false, false, false, false, false] rfl rfl (any_of HT_.out (by kernel_rfl)) (fun _ _ _ h => h) (Or.inr ⟨by rfl, rfl⟩) ?_ ?_
             rotate_left
             ·simp only [Act.put, List.setIfInBounds_toArray, List.set_cons_zero, List.set_cons_succ, i64_w, i32_w]
              rfl
             refine pure_ (i := 12) (N := some 72) (v := undef) (a' := ?_) #[true, true, true, true, true, true, true, true, true, true, true, true, true, false, false, false, false, false, false] rfl rfl (any_of HT_.out (by kernel_rfl)) (fun _ _ _ h => h) (Or.inr ⟨by rfl, rfl⟩) ?_ ?_
             rotate_left
             ·simp only [Act.put, List.setIfInBounds_toArray, List.set_cons_zero, List.set_cons_succ, i64_w, i32_w]
              rfl
             refine pure_ (i := 13) (N := some 73) (v := undef) (a' := ?_) #[true, true, true, true, true, true, true, true, true, true, true, true, true, true, false, false, false, false, false] rfl rfl (any_of HT_.out (by kernel_rfl)) (fun _ _ _ h => h) (Or.inr ⟨by rfl, rfl⟩) ?_ ?_
             rotate_left
             ·simp only [Act.put, List.setIfInBounds_toArray, List.set_cons_zero, List.set_cons_succ, i64_w, i32_w]
              rfl
             refine pure_ (i := 14) (N := some 74) (v := undef) (a' := ?_) #[true, true, true, true, true, true, true, true, true, true, true, true, true, true, true, false, false, false, false] rfl rfl (any_of HT_.out (by kernel_rfl)) (fun _ _ _ h => h) (Or.inr ⟨by rfl, rfl⟩) ?_ ?_
             rotate_left
             ·simp only [Act.put, List.setIfInBounds_toArray, List.set_cons_zero, List.set_cons_succ, i64_w, i32_w]
              rfl
             refine pure_ (i := 15) (N := some 75) (v := undef) (a' := ?_) #[true, true, true, true, true, true, true, true, true, true, true, true, true, true, true, true, false, false, false] rfl rfl (any_of HT_.out (by kernel_rfl)) (fun _ _ _ h => h) (Or.inr ⟨by rfl, rfl⟩) ?_ ?_
             rotate_left
             ·simp only [Act.put, List.setIfInBounds_toArray, List.set_cons_zero, List.set_cons_succ, i64_w, i32_w]
              rfl
             refine pure_ (i := 16) (N := some 76) (v := undef) (a' := ?_) #[true, true, true, true, true, true, true, true, true, true, true, true, true, true, true, true, true, false, false] rfl rfl (any_of HT_.out (by kernel_rfl)) (fun _ _ _ h => h) (Or.inr ⟨by rfl, rfl⟩) ?_ ?_
             rotate_left
             ·simp only [Act.put, List.setIfInBounds_toArray, List.set_cons_zero, List.set_cons_succ, i64_w, i32_w]
              rfl
             refine pure_ (i := 17) (N := some 77) (v := undef) (a' := ?_) #[true, true, true, true, true, true, true, true, true, true, true, true, true, true, true, true, true, true, false] rfl rfl (any_of HT_.out (by kernel_rfl)) (fun _ _ _ h => h) (Or.inr ⟨by rfl, rfl⟩) ?_ ?_
             rotate_left
             ·simp only [Act.put, List.setIfInBounds_toArray, List.set_cons_zero, List.set_cons_succ, i64_w, i32_w]
              rfl
             refine pure_ (i := 18) (N := some 78) (v := ?_) (a' := ?_) #[true, true, true, true, true, true, true, true, true, true, true, true, true, true, true, true, true, true, true] rfl rfl (any_of HT_.out (by kernel_rfl)) (fun _ _ _ h => h) (Or.inl ⟨by rfl, ?_⟩) ?_ ?_
             rotate_left
             ·intro w'
              go_simp
              with_reducible rfl
             rotate_left
             ·simp only [Act.put, List.setIfInBounds_toArray, List.set_cons_zero, List.set_cons_succ, i64_w, i32_w]
              rfl
             refine done_ (done_of HT_.out (by kernel_rfl)) ?_
             try go_wp2
             go_ret
             exact ⟨by first | rfl | (simp [errW_none, errW_some] <;> rfl) | (simp [*, errW_none, errW_some] <;> rfl), by repeat (first | (with_reducible first | exact HB.out | apply wA | apply wN | apply wD | refine wS ?_ c4.out | refine wS ?_ c8.out | refine wS ?_ c9.out | refine wS ?_ d1.out | refine wS ?_ d2.out) | exact HB.out)⟩
           ·rw [if_neg c31] at H
            exact absurd H (by simp)
          ·rw [if_neg c30] at H
           exact absurd H (by simp)
         ·rw [if_neg c29] at H
          exact absurd H (by simp)
        ·rw [if_neg c28] at H
         exact absurd H (by simp)
       ·rw [if_neg c27] at H
        have c27b0 : decide (c0 < 3) = false := decide_eq_false c27
        clear c27
        by_cases c52 : 0 ≤ a6
        ·rw [if_pos c52] at H
         have c52b0 : decide (0 ≤ a6) = true := decide_eq_true c52
         clear c52
         by_cases c53 : a6 < (a3.length : Int)
         ·rw [if_pos c53] at H
          have c53b0 : decide (a6 < (a3.length : Int)) = true := decide_eq_true c53
          clear c53
          replace H := Option.bind_eq_some_iff.mp H
          obtain ⟨q9, B2, H⟩ := H
          replace H : ((spec_RGPlace.f k2 b2 a9).bind fun p8 => (if q9 > p8 then (laws_FnRGCuts.j2 k2 a3 a6 ((rd_T23 a3 a6).f0) ((rd_T23 a3 a6).f1) a8 a7) else (laws_FnRGCuts.j2 k2 a3 a6 b2 a9 a8 a7))) = some r := H
          have A54 := aM B2
          clear B2
          replace H := Option.bind_eq_some_iff.mp H
          obtain ⟨p8, B3, H⟩ := H
          replace H : (if q9 > p8 then (laws_FnRGCuts.j2 k2 a3 a6 ((rd_T23 a3 a6).f0) ((rd_T23 a3 a6).f1) a8 a7) else (laws_FnRGCuts.j2 k2 a3 a6 b2 a9 a8 a7)) = some r := H
          have A55 := aM B3
          clear B3
          have v2 := aM H
          clear H
          try go_wp2
          have n0_ := aM (Kd.R_drew b3.out)
          have n1_ := aM (bD a0.out)
          have n2_ := aM (bD a1.out)
          have n3_ := aM (bD a2.out)
          have n4_ := aM (bD a5.out)
          have n5_ := aM (bD a4.out)
          have n6_ := aM (wD HB.out)
          clear b3
          clear a0
          clear a1
          clear a2
          clear a5
          clear a4
          clear HB
          have b3 := n0_
          have a0 := n1_
          have a1 := n2_
          have a2 := n3_
          have a5 := n4_
          have a4 := n5_
          have HB := n6_
          clear n0_ n1_ n2_ n3_ n4_ n5_ n6_
          have t0 : 0 ≤ (a6 : Int) := of_decide_eq_true (by first | (with_reducible assumption) | assumption)
          have t1 : a6 < (a3.length : Int) := of_decide_eq_true (by first | (with_reducible assumption) | assumption)
          obtain ⟨C4, D5, r0, r1⟩ := at_T23 (Kd.R_reads' b3.out).2.2 a6 t0 t1
          obtain rfl : b9 = C4 := (by injection D5)
          replace t0 := eq_true t0
          replace t1 := eq_true t1
          refine start_ (n := 8) (S := fun w' => w'.cell? ⟨b0, 0, none⟩ = some (.int .i64 b2) ∧ w'.cell? ⟨b0, 1, none⟩ = some (.int .i64 a9) ∧ w'.cell? (b9.add ((a6).toNat * 2)) = some (.int .i64 ((rd_T23 a3 a6).f0)) ∧ w'.cell? ⟨(b9.add ((a6).toNat * 2)).block, (b9.add ((a6).toNat * 2)).off + 1, none⟩ = some (.int .i64 ((rd_T23 a3 a6).f1))) (ds := []) #[false, false, false, false, false, false, false, false] (by kernel_rfl) rfl rfl ⟨(blk_cell a5.out 0).trans rfl, (blk_cell a5.out 1).trans rfl, r0, r1⟩ (fun hHeld => ?_); refine with_tabW laws_FnRGCuts.tab12 laws_FnRGCuts.bits12 (fun HT_ HW_ => ?_)
          generalize wr.drew = w57 at b3 a0 a1 a2 a5 a4 HB r0 r1 hHeld ⊢
          refine pure_ (i := 0) (N := some 79) (v := ?_) (a' := ?_) #[true, false, false, false, false, false, false, false] rfl rfl (any_of HT_.out (by kernel_rfl)) (fun _ _ _ h => h) (Or.inl ⟨by rfl, ?_⟩) ?_ ?_
          rotate_left
          ·intro w'
           go_simp
           with_reducible rfl
          rotate_left
          ·simp only [Act.put, List.setIfInBounds_toArray, List.set_cons_zero, List.set_cons_succ, i64_w, i32_w]
           rfl
          refine pure_ (i := 1) (N := some 80) (v := ?_) (a' := ?_) #[true, true, false, false, false, false, false, false] rfl rfl (any_of HT_.out (by kernel_rfl)) (fun _ _ _ h => h) (Or.inl ⟨by rfl, ?_⟩) ?_ ?_
          rotate_left
          ·intro w'
           go_simp
           with_reducible rfl
          rotate_left
          ·simp only [Act.put, List.setIfInBounds_toArray, List.set_cons_zero, List.set_cons_succ, i64_w, i32_w]
           rfl
          refine pure_ (i := 2) (N := some 81) (v := ?_) (a' := ?_) #[true, true, true, false, false, false, false, false] rfl rfl (any_of HT_.out (by kernel_rfl)) (fun _ _ _ h => h) (Or.inl ⟨by rfl, ?_⟩) ?_ ?_
          rotate_left
          ·intro w'
           go_simp
           with_reducible rfl
          rotate_left
          ·simp only [Act.put, List.setIfInBounds_toArray, List.set_cons_zero, List.set_cons_succ, i64_w, i32_w]
           rfl
          refine take_ (i := 3) (N := some 82) (v := ?_) (a' := ?_) #[true, true, true, true, false, false, false, false] rfl rfl (take_ofW HT_.out HW_.out (by kernel_rfl)) (fun _ _ _ h => h) (Or.inl ⟨by rfl, ?_⟩) hHeld ?_ ?_
          rotate_left
          ·rintro w' ⟨s0, s1, s2, s3⟩
           go_simp
           with_reducible rfl
          rotate_left
          ·simp only [Act.put, List.setIfInBounds_toArray, List.set_cons_zero, List.set_cons_succ, i64_w, i32_w]
           rfl
          refine take_ (i := 5) (N := some 84) (v := ?_) (a' := ?_) #[true, true, true, true, false, true, false, false] rfl rfl (take_ofW HT_.out HW_.out (by kernel_rfl)) (fun _ _ _ h => h) (Or.inl ⟨by rfl, ?_⟩) hHeld ?_ ?_
          rotate_left
          ·rintro w' ⟨s0, s1, s2, s3⟩
           go_simp
           with_reducible rfl
          rotate_left
          ·simp only [Act.put, List.setIfInBounds_toArray, List.set_cons_zero, List.set_cons_succ, i64_w, i32_w]
           rfl
          refine one_ (i := 4) (N := some 83) #[true, true, true, true, true, true, false, false] rfl rfl (one_of HT_.out (by kernel_rfl)) (by decide) (fun K hK => ?_)
          refine goes_ Tryd.func13 (by kernel_rfl) rfl #[.agg #[.int .i64 ((rd_T23 a3 a6).f0), .int .i64 ((rd_T23 a3 a6).f1)]] (by rfl) rfl rfl (by (try simp only [List.map_toArray, List.map_cons, List.map_nil]); first | done | rfl | (simp only [List.length_drop, List.length_take]; rfl)) ?_
          with_reducible refine (spec_RGPlace.calls k2 ((rd_T23 a3 a6).f0) ((rd_T23 a3 a6).f1) q9 _ A54.out).mono ?_
          rintro e w58 ⟨rfl, hb⟩
          have e9 := (hb.cell (World.block_lt_of_cell? _ _ (hHeld.2.2.1))).trans (hHeld.2.2.1)
          have f2 := (hb.cell (World.block_lt_of_cell? _ _ (hHeld.2.2.2))).trans (hHeld.2.2.2)
          refine ⟨_, rfl, ?_⟩
          have n0_ := aM (Kd.R_below (by (with_reducible repeat (first | apply Kd.R_alloc | apply Kd.R_drewN | apply Kd.R_drew)); exact b3.out) hb)
          have n1_ := aM (bB (g := b4) (o := .cells #[.int .i64 a0_0, .int .i64 a0_1] 23 (0, 0)) (by (with_reducible repeat (first | refine bN ?_ _ | refine bD ?_ | refine bA ?_ _)); exact a0.out) hb)
          have n2_ := aM (bB (g := b5) (o := .cells #[.int .i64 a1_0, .int .i64 a1_1] 23 (0, 0)) (by (with_reducible repeat (first | refine bN ?_ _ | refine bD ?_ | refine bA ?_ _)); exact a1.out) hb)
          have n3_ := aM (bB (g := b7) (o := .cells #[.int .i64 a2_0, .int .i64 a2_1] 23 (0, 0)) (by (with_reducible repeat (first | refine bN ?_ _ | refine bD ?_ | refine bA ?_ _)); exact a2.out) hb)
          have n4_ := aM (bB (g := b0) (o := .cells #[.int .i64 b2, .int .i64 a9] 23 (0, 0)) (by (with_reducible repeat (first | refine bN ?_ _ | refine bD ?_ | refine bA ?_ _)); exact a5.out) hb)
          have n5_ := aM (bB (g := b1) (o := .cells #[.int .i64 a8, .int .i64 a7] 23 (0, 0)) (by (with_reducible repeat (first | refine bN ?_ _ | refine bD ?_ | refine bA ?_ _)); exact a4.out) hb)
          have n6_ := aM (wP (by repeat (first | (with_reducible first | exact HB.out | apply wA | apply wN | apply wD | refine wS ?_ c4.out | refine wS ?_ c8.out | refine wS ?_ c9.out | refine wS ?_ d1.out | refine wS ?_ d2.out) | exact HB.out)) hb)
          clear b3
          clear a0
          clear a1
          clear a2
          clear a5
          clear a4
          clear HB
          have b3 := n0_
          have a0 := n1_
          have a1 := n2_
          have a2 := n3_
          have a5 := n4_
          have a4 := n5_
          have HB := n6_
          clear n0_ n1_ n2_ n3_ n4_ n5_ n6_
          (try clear hb)
          (try clear hb2)
          (try clear hk)
          (try clear hi)
          refine hK.out _ _ ⟨(blk_cell a5.out 0).trans rfl, (blk_cell a5.out 1).trans rfl, e9, f2⟩ (fun hHeld => ?_)
          clear hK K
          refine norm_ (a' := ?_) ?_ ?_
          rotate_left
          ·show Act.put _ (some 83) _ = _
           simp only [Act.put, List.setIfInBounds_toArray, List.set_cons_zero, List.set_cons_succ, i64_w, i32_w]
           rfl
          refine one_ (i := 6) (N := some 85) #[true, true, true, true, true, true, true, false] rfl rfl (one_of HT_.out (by kernel_rfl)) (by decide) (fun K hK => ?_)
          refine goes_ Tryd.func13 (by kernel_rfl) rfl #[.agg #[.int .i64 b2, .int .i64 a9]] (by rfl) rfl rfl (by (try simp only [List.map_toArray, List.map_cons, List.map_nil]); first | done | rfl | (simp only [List.length_drop, List.length_take]; rfl)) ?_
          with_reducible refine (spec_RGPlace.calls k2 b2 a9 p8 _ A55.out).mono ?_
          rintro e w59 ⟨rfl, hb⟩
          have e9 := (hb.cell (World.block_lt_of_cell? _ _ (hHeld.2.2.1))).trans (hHeld.2.2.1)
          have f2 := (hb.cell (World.block_lt_of_cell? _ _ (hHeld.2.2.2))).trans (hHeld.2.2.2)
          refine ⟨_, rfl, ?_⟩
          have n0_ := aM (Kd.R_below (by (with_reducible repeat (first | apply Kd.R_alloc | apply Kd.R_drewN | apply Kd.R_drew)); exact b3.out) hb)
          have n1_ := aM (bB (g := b4) (o := .cells #[.int .i64 a0_0, .int .i64 a0_1] 23 (0, 0)) (by (with_reducible repeat (first | refine bN ?_ _ | refine bD ?_ | refine bA ?_ _)); exact a0.out) hb)
          have n2_ := aM (bB (g := b5) (o := .cells #[.int .i64 a1_0, .int .i64 a1_1] 23 (0, 0)) (by (with_reducible repeat (first | refine bN ?_ _ | refine bD ?_ | refine bA ?_ _)); exact a1.out) hb)
          have n3_ := aM (bB (g := b7) (o := .cells #[.int .i64 a2_0, .int .i64 a2_1] 23 (0, 0)) (by (with_reducible repeat (first | refine bN ?_ _ | refine bD ?_ | refine bA ?_ _)); exact a2.out) hb)
          have n4_ := aM (bB (g := b0) (o := .cells #[.int .i64 b2, .int .i64 a9] 23 (0, 0)) (by (with_reducible repeat (first | refine bN ?_ _ | refine bD ?_ | refine bA ?_ _)); exact a5.out) hb)
          have n5_ := aM (bB (g := b1) (o := .cells #[.int .i64 a8, .int .i64 a7] 23 (0, 0)) (by (with_reducible repeat (first | refine bN ?_ _ | refine bD ?_ | refine bA ?_ _)); exact a4.out) hb)
          have n6_ := aM (wP (by repeat (first | (with_reducible first | exact HB.out | apply wA | apply wN | apply wD | refine wS ?_ c4.out | refine wS ?_ c8.out | refine wS ?_ c9.out | refine wS ?_ d1.out | refine wS ?_ d2.out) | exact HB.out)) hb)
          clear b3
          clear a0
          clear a1
          clear a2
          clear a5
          clear a4
          clear HB
          have b3 := n0_
          have a0 := n1_
          have a1 := n2_
          have a2 := n3_
          have a5 := n4_
          have a4 := n5_
          have HB := n6_
          clear n0_ n1_ n2_ n3_ n4_ n5_ n6_
          (try clear hb)
          (try clear hb2)
          (try clear hk)
          (try clear hi)
          refine hK.out _ _ ⟨(blk_cell a5.out 0).trans rfl, (blk_cell a5.out 1).trans rfl, e9, f2⟩ (fun hHeld => ?_)
          clear hK K
          refine norm_ (a' := ?_) ?_ ?_
          rotate_left
          ·show Act.put _ (some 85) _ = _
           simp only [Act.put, List.setIfInBounds_toArray, List.set_cons_zero, List.set_cons_succ, i64_w, i32_w]
           rfl
          refine pure_ (i := 7) (N := some 86) (v := ?_) (a' := ?_) #[true, true, true, true, true, true, true, true] rfl rfl (any_of HT_.out (by kernel_rfl)) (fun _ _ _ h => h) (Or.inl ⟨by rfl, ?_⟩) ?_ ?_
          rotate_left
          ·intro w'
           go_simp
           with_reducible rfl
          rotate_left
          ·simp only [Act.put, List.setIfInBounds_toArray, List.set_cons_zero, List.set_cons_succ, i64_w, i32_w]
           rfl
          refine done_ (done_of HT_.out (by kernel_rfl)) ?_
          go_upto_if 86 with (fail)
          go_cut [] (fun wc => ∃ (kq : Nat) (e7 : Int) (e8 : Int), Aside0 (laws_FnRGCuts.j2 kq a3 a6 e7 e8 a8 a7 = some r) ∧ Aside0 (kq ≤ k2) ∧ Aside0 (Kd.R k23 23 wc w.heap.size (fun k_ => k_ ≠ b4 ∧ k_ ≠ b5 ∧ k_ ≠ b7 ∧ k_ ≠ b0 ∧ k_ ≠ b1) (.slice (some b9) a3.length h6) a3) ∧ Aside0 (wc.heap[b4]? = some (.cells #[.int .i64 a0_0, .int .i64 a0_1] 23 (0, 0))) ∧ Aside0 (wc.heap[b5]? = some (.cells #[.int .i64 a1_0, .int .i64 a1_1] 23 (0, 0))) ∧ Aside0 (wc.heap[b7]? = some (.cells #[.int .i64 a2_0, .int .i64 a2_1] 23 (0, 0))) ∧ Aside0 (wc.heap[b0]? = some (.cells #[.int .i64 e7, .int .i64 e8] 23 (0, 0))) ∧ Aside0 (wc.heap[b1]? = some (.cells #[.int .i64 a8, .int .i64 a7] 23 (0, 0))) ∧ Aside0 (Below w.heap.size w wc))
          case first =>
           have H := v2.out
           clear v2
           by_cases c60 : q9 > p8
           ·rw [if_pos c60] at H
            have c60b0 : decide (p8 < q9) = true := decide_eq_true c60
            clear c60
            (first | rw [c60b0] | (simp only [i64_w, i32_w]; rw [c60b0]) | skip)
            have H' := aM H
            clear H
            have t2 : 0 ≤ (a6 : Int) := of_decide_eq_true (by first | (with_reducible assumption) | assumption)
            have t3 : a6 < (a3.length : Int) := of_decide_eq_true (by first | (with_reducible assumption) | assumption)
            obtain ⟨C5, D6, v9, x0⟩ := at_T23 (Kd.R_reads' b3.out).2.2 a6 t2 t3
            obtain rfl : b9 = C5 := (by injection D6)
            replace t2 := eq_true t2
            replace t3 := eq_true t3
            have az_ := g7.out
            have aA_ := f6.out
            have aB_ := g8.out
            have aC_ := f7.out
            have aD_ := g9.out
            have aE_ := f8.out
            have aF_ := e0.out
            have aG_ := e1.out
            have x1 : w59.cell? ⟨b0, 0, none⟩ = some (.int .i64 b2) := (blk_cell a5.out 0).trans rfl
            have x2 : w59.cell? ⟨b0, 1, none⟩ = some (.int .i64 a9) := (blk_cell a5.out 1).trans rfl
            have x3 := blk_frozen a5.out 0
            have x4 := blk_frozen a5.out 1
            go_wp2
            go_meet
            case rel => exact ⟨_, ((rd_T23 a3 a6).f0), ((rd_T23 a3 a6).f1), H', ⟨by have := HK1.out; have := HK2.out; first | omega | exact Nat.le_refl _⟩, ⟨by (with_reducible repeat (first | apply Kd.R_alloc | apply Kd.R_drewN | apply Kd.R_drew)); exact Kd.R_mono (Kd.R_far (p := ⟨b0, 1, none⟩) (Kd.R_far (p := ⟨b0, 0, none⟩) (Kd.R_mono b3.out (fun k_ hk => (⟨hk, hk.2.2.2.1⟩ : _ ∧ k_ ≠ b0))) (fun _ hk => hk.2) (.int .i64 ((rd_T23 a3 a6).f0))) (fun _ hk => hk.2) (.int .i64 ((rd_T23 a3 a6).f1))) (fun _ hk => ⟨hk.1.1, ⟨hk.1.2.1, ⟨hk.1.2.2.1, ⟨hk.1.2.2.2.1, hk.1.2.2.2.2⟩⟩⟩⟩)⟩, ⟨by (with_reducible repeat (first | refine bN ?_ _ | refine bD ?_ | refine bA ?_ _)); refine blk_far ?_ f6.out _; (with_reducible repeat (first | refine bN ?_ _ | refine bD ?_ | refine bA ?_ _)); refine blk_far ?_ f6.out _; (with_reducible repeat (first | refine bN ?_ _ | refine bD ?_ | refine bA ?_ _)); exact a0.out⟩, ⟨by (with_reducible repeat (first | refine bN ?_ _ | refine bD ?_ | refine bA ?_ _)); refine blk_far ?_ f7.out _; (with_reducible repeat (first | refine bN ?_ _ | refine bD ?_ | refine bA ?_ _)); refine blk_far ?_ f7.out _; (with_reducible repeat (first | refine bN ?_ _ | refine bD ?_ | refine bA ?_ _)); exact a1.out⟩, ⟨by (with_reducible repeat (first | refine bN ?_ _ | refine bD ?_ | refine bA ?_ _)); refine blk_far ?_ f8.out _; (with_reducible repeat (first | refine bN ?_ _ | refine bD ?_ | refine bA ?_ _)); refine blk_far ?_ f8.out _; (with_reducible repeat (first | refine bN ?_ _ | refine bD ?_ | refine bA ?_ _)); exact a2.out⟩, ⟨by (with_reducible repeat (first | refine bN ?_ _ | refine bD ?_ | refine bA ?_ _)); refine blk_put (cs := #[.int .i64 ((rd_T23 a3 a6).f0), .int .i64 a9]) ?_ 1 _ rfl; (with_reducible repeat (first | refine bN ?_ _ | refine bD ?_ | refine bA ?_ _)); refine blk_put (cs := #[.int .i64 b2, .int .i64 a9]) ?_ 0 _ rfl; (with_reducible repeat (first | refine bN ?_ _ | refine bD ?_ | refine bA ?_ _)); exact a5.out⟩, ⟨by (with_reducible repeat (first | refine bN ?_ _ | refine bD ?_ | refine bA ?_ _)); refine blk_far ?_ e1.out _; (with_reducible repeat (first | refine bN ?_ _ | refine bD ?_ | refine bA ?_ _)); refine blk_far ?_ e1.out _; (with_reducible repeat (first | refine bN ?_ _ | refine bD ?_ | refine bA ?_ _)); exact a4.out⟩, ⟨by repeat (first | (with_reducible first | exact HB.out | apply wA | apply wN | apply wD | refine wS ?_ c4.out | refine wS ?_ c8.out | refine wS ?_ c9.out | refine wS ?_ d1.out | refine wS ?_ d2.out) | exact HB.out)⟩⟩
           ·rw [if_neg c60] at H
            have c60b0 : decide (p8 < q9) = false := decide_eq_false c60
            clear c60
            (first | rw [c60b0] | (simp only [i64_w, i32_w]; rw [c60b0]) | skip)
            have H' := aM H
            clear H
            go_wp2
            go_meet
            case rel => exact ⟨_, (b2), (a9), H', ⟨by have := HK1.out; have := HK2.out; first | omega | exact Nat.le_refl _⟩, ⟨by (with_reducible repeat (first | apply Kd.R_alloc | apply Kd.R_drewN | apply Kd.R_drew)); exact b3.out⟩, ⟨by (with_reducible repeat (first | refine bN ?_ _ | refine bD ?_ | refine bA ?_ _)); exact a0.out⟩, ⟨by (with_reducible repeat (first | refine bN ?_ _ | refine bD ?_ | refine bA ?_ _)); exact a1.out⟩, ⟨by (with_reducible repeat (first | refine bN ?_ _ | refine bD ?_ | refine bA ?_ _)); exact a2.out⟩, ⟨by (with_reducible repeat (first | refine bN ?_ _ | refine bD ?_ | refine bA ?_ _)); exact a5.out⟩, ⟨by (with_reducible repeat (first | refine bN ?_ _ | refine bD ?_ | refine bA ?_ _)); exact a4.out⟩, ⟨by repeat (first | (with_reducible first | exact HB.out | apply wA | apply wN | apply wD | refine wS ?_ c4.out | refine wS ?_ c8.out | refine wS ?_ c9.out | refine wS ?_ d1.out | refine wS ?_ d2.out) | exact HB.out)⟩⟩
          case rest =>
           clear v2
           try clear c1
           try clear p1
           try clear q1
           try clear hx1
           try clear c2
           try clear p2
           try clear c3
           try clear c5
           try clear c6
           try clear p6
           try clear c11
           try clear c12
           try clear p12
           try clear q12
           try clear hx12
           try clear c13
           try clear p13
           try clear q13
           try clear hx13
           try clear c27
           try clear c27b0
           try clear c28
           try clear c29
           try clear c30
           try clear c31
           try clear c33
           try clear c52
           try clear c52b0
           try clear c53
           try clear c53b0
           try clear c60
           try clear c60b0
           try clear c61
           try clear c62
           try clear c63
           try clear c64
           try clear p64
           try clear x1
           try clear x2
           try clear x3
           try clear x4
           try clear l7
           try clear l8
           try clear l9
           try clear m0
           try clear r0
           try clear r1
           try clear v9
           try clear x0
           try clear n1
           try clear n3
           try clear t0
           try clear t2
           try clear n2
           try clear n4
           try clear t1
           try clear t3
           obtain ⟨kq, e7, e8, HA, t4, b3, a0, a1, a2, a5, a4, HB⟩ := hcut
           cases kq with
           | zero => exact absurd HA.out (by simp [laws_FnRGCuts.j2])
           | succ kj55 =>
            have H := HA.out
            clear HA
            simp only [laws_FnRGCuts.j2] at H
            by_cases c66 : 0 ≤ a6
            ·rw [if_pos c66] at H
             have c66b0 : decide (0 ≤ a6) = true := decide_eq_true c66
             clear c66
             by_cases c67 : a6 < (a3.length : Int)
             ·rw [if_pos c67] at H
              have c67b0 : decide (a6 < (a3.length : Int)) = true := decide_eq_true c67
              clear c67
              replace H := Option.bind_eq_some_iff.mp H
              obtain ⟨p9, B4, H⟩ := H
              replace H : ((spec_RGPlace.f kj55 a8 a7).bind fun p0 => (if p9 < p0 then (laws_FnRGCuts.l0 kj55 a3 (wrap64 (a6 + 1)) e7 e8 ((rd_T23 a3 a6).f0) ((rd_T23 a3 a6).f1)) else (laws_FnRGCuts.l0 kj55 a3 (wrap64 (a6 + 1)) e7 e8 a8 a7))) = some r := H
              have A68 := aM B4
              clear B4
              replace H := Option.bind_eq_some_iff.mp H
              obtain ⟨p0, B5, H⟩ := H
              replace H : (if p9 < p0 then (laws_FnRGCuts.l0 kj55 a3 (wrap64 (a6 + 1)) e7 e8 ((rd_T23 a3 a6).f0) ((rd_T23 a3 a6).f1)) else (laws_FnRGCuts.l0 kj55 a3 (wrap64 (a6 + 1)) e7 e8 a8 a7)) = some r := H
              have A69 := aM B5
              clear B5
              by_cases c70 : p9 < p0
              ·rw [if_pos c70] at H
               have c70b0 : decide (p9 < p0) = true := decide_eq_true c70
               clear c70
               have H' := aM H
               clear H
               try go_wp2
               have n0_ := aM (Kd.R_drew b3.out)
               have n1_ := aM (bD a0.out)
               have n2_ := aM (bD a1.out)
               have n3_ := aM (bD a2.out)
               have n4_ := aM (bD a5.out)
               have n5_ := aM (bD a4.out)
               have n6_ := aM (wD HB.out)
               clear b3
               clear a0
               clear a1
               clear a2
               clear a5
               clear a4
               clear HB
               have b3 := n0_
               have a0 := n1_
               have a1 := n2_
               have a2 := n3_
               have a5 := n4_
               have a4 := n5_
               have HB := n6_
               clear n0_ n1_ n2_ n3_ n4_ n5_ n6_
               have q0 : 0 ≤ (a6 : Int) := of_decide_eq_true (by first | (with_reducible assumption) | assumption)
               have q2 : a6 < (a3.length : Int) := of_decide_eq_true (by first | (with_reducible assumption) | assumption)
               obtain ⟨t5, v3, o2, o3⟩ := at_T23 (Kd.R_reads' b3.out).2.2 a6 q0 q2
               obtain rfl : b9 = t5 := (by injection v3)
               replace q0 := eq_true q0
               replace q2 := eq_true q2
               refine start_ (n := 8) (S := fun w' => w'.cell? ⟨b1, 0, none⟩ = some (.int .i64 a8) ∧ w'.cell? ⟨b1, 1, none⟩ = some (.int .i64 a7) ∧ w'.cell? (b9.add ((a6).toNat * 2)) = some (.int .i64 ((rd_T23 a3 a6).f0)) ∧ w'.cell? ⟨(b9.add ((a6).toNat * 2)).block, (b9.add ((a6).toNat * 2)).off + 1, none⟩ = some (.int .i64 ((rd_T23 a3 a6).f1))) (ds := []) #[false, false, false, false, false, false, false, false] (by kernel_rfl) rfl rfl ⟨(blk_cell a4.out 0).trans rfl, (blk_cell a4.out 1).trans rfl, o2, o3⟩ (fun hHeld => ?_); refine with_tabW laws_FnRGCuts.tab14 laws_FnRGCuts.bits14 (fun HT_ HW_ => ?_)
               generalize wc.drew = w71 at b3 a0 a1 a2 a5 a4 HB o2 o3 hHeld ⊢
               refine pure_ (i := 0) (N := some 91) (v := ?_) (a' := ?_) #[true, false, false, false, false, false, false, false] rfl rfl (any_of HT_.out (by kernel_rfl)) (fun _ _ _ h => h) (Or.inl ⟨by rfl, ?_⟩) ?_ ?_
               rotate_left
               ·intro w'
                go_simp
                with_reducible rfl
               rotate_left
               ·simp only [Act.put, List.setIfInBounds_toArray, List.set_cons_zero, List.set_cons_succ, i64_w, i32_w]
                rfl
               refine pure_ (i := 1) (N := some 92) (v := ?_) (a' := ?_) #[true, true, false, false, false, false, false, false] rfl rfl (any_of HT_.out (by kernel_rfl)) (fun _ _ _ h => h) (Or.inl ⟨by rfl, ?_⟩) ?_ ?_
               rotate_left
               ·intro w'
                go_simp
                with_reducible rfl
               rotate_left
               ·simp only [Act.put, List.setIfInBounds_toArray, List.set_cons_zero, List.set_cons_succ, i64_w, i32_w]
                rfl
               refine pure_ (i := 2) (N := some 93) (v := ?_) (a' := ?_) #[true, true, true, false, false, false, false, false] rfl rfl (any_of HT_.out (by kernel_rfl)) (fun _ _ _ h => h) (Or.inl ⟨by rfl, ?_⟩) ?_ ?_
               rotate_left
               ·intro w'
                go_simp
                with_reducible rfl
               rotate_left
               ·simp only [Act.put, List.setIfInBounds_toArray, List.set_cons_zero, List.set_cons_succ, i64_w, i32_w]
                rfl
               refine take_ (i := 3) (N := some 94) (v := ?_) (a' := ?_) #[true, true, true, true, false, false, false, false] rfl rfl (take_ofW HT_.out HW_.out (by kernel_rfl)) (fun _ _ _ h => h) (Or.inl ⟨by rfl, ?_⟩) hHeld ?_ ?_
               rotate_left
               ·rintro w' ⟨s0, s1, s2, s3⟩
                go_simp
                with_reducible rfl
               rotate_left
               ·simp only [Act.put, List.setIfInBounds_toArray, List.set_cons_zero, List.set_cons_succ, i64_w, i32_w]
                rfl
               refine take_ (i := 5) (N := some 96) (v := ?_) (a' := ?_) #[true, true, true, true, false, true, false, false] rfl rfl (take_ofW HT_.out HW_.out (by kernel_rfl)) (fun _ _ _ h => h) (Or.inl ⟨by rfl, ?_⟩) hHeld ?_ ?_
               rotate_left
               ·rintro w' ⟨s0, s1, s2, s3⟩
                go_simp
                with_reducible rfl
               rotate_left
               ·simp only [Act.put, List.setIfInBounds_toArray, List.set_cons_zero, List.set_cons_succ, i64_w, i32_w]
                rfl
               refine one_ (i := 4) (N := some 95) #[true, true, true, true, true, true, false, false] rfl rfl (one_of HT_.out (by kernel_rfl)) (by decide) (fun K hK => ?_)
               refine goes_ Tryd.func13 (by kernel_rfl) rfl #[.agg #[.int .i64 ((rd_T23 a3 a6).f0), .int .i64 ((rd_T23 a3 a6).f1)]] (by rfl) rfl rfl (by (try simp only [List.map_toArray, List.map_cons, List.map_nil]); first | done | rfl | (simp only [List.length_drop, List.length_take]; rfl)) ?_
               with_reducible refine (spec_RGPlace.calls kj55 ((rd_T23 a3 a6).f0) ((rd_T23 a3 a6).f1) p9 _ A68.out).mono ?_
               rintro e w72 ⟨rfl, hb⟩
               have e9 := (hb.cell (World.block_lt_of_cell? _ _ (hHeld.2.2.1))).trans (hHeld.2.2.1)
               have f2 := (hb.cell (World.block_lt_of_cell? _ _ (hHeld.2.2.2))).trans (hHeld.2.2.2)
               refine ⟨_, rfl, ?_⟩
               have n0_ := aM (Kd.R_below (by (with_reducible repeat (first | apply Kd.R_alloc | apply Kd.R_drewN | apply Kd.R_drew)); exact b3.out) hb)
               have n1_ := aM (bB (g := b4) (o := .cells #[.int .i64 a0_0, .int .i64 a0_1] 23 (0, 0)) (by (with_reducible repeat (first | refine bN ?_ _ | refine bD ?_ | refine bA ?_ _)); exact a0.out) hb)
               have n2_ := aM (bB (g := b5) (o := .cells #[.int .i64 a1_0, .int .i64 a1_1] 23 (0, 0)) (by (with_reducible repeat (first | refine bN ?_ _ | refine bD ?_ | refine bA ?_ _)); exact a1.out) hb)
               have n3_ := aM (bB (g := b7) (o := .cells #[.int .i64 a2_0, .int .i64 a2_1] 23 (0, 0)) (by (with_reducible repeat (first | refine bN ?_ _ | refine bD ?_ | refine bA ?_ _)); exact a2.out) hb)
               have n4_ := aM (bB (g := b0) (o := .cells #[.int .i64 e7, .int .i64 e8] 23 (0, 0)) (by (with_reducible repeat (first | refine bN ?_ _ | refine bD ?_ | refine bA ?_ _)); exact a5.out) hb)
               have n5_ := aM (bB (g := b1) (o := .cells #[.int .i64 a8, .int .i64 a7] 23 (0, 0)) (by (with_reducible repeat (first | refine bN ?_ _ | refine bD ?_ | refine bA ?_ _)); exact a4.out) hb)
               have n6_ := aM (wP (by repeat (first | (with_reducible first | exact HB.out | apply wA | apply wN | apply wD | refine wS ?_ c4.out | refine wS ?_ c8.out | refine wS ?_ c9.out | refine wS ?_ d1.out | refine wS ?_ d2.out) | exact HB.out)) hb)
               clear b3
               clear a0
               clear a1
               clear a2
               clear a5
               clear a4
               clear HB
               have b3 := n0_
               have a0 := n1_
               have a1 := n2_
               have a2 := n3_
               have a5 := n4_
               have a4 := n5_
               have HB := n6_
               clear n0_ n1_ n2_ n3_ n4_ n5_ n6_
               (try clear hb)
               (try clear hb2)
               (try clear hk)
               (try clear hi)
               refine hK.out _ _ ⟨(blk_cell a4.out 0).trans rfl, (blk_cell a4.out 1).trans rfl, e9, f2⟩ (fun hHeld => ?_)
               clear hK K
               refine norm_ (a' := ?_) ?_ ?_
               rotate_left
               ·show Act.put _ (some 95) _ = _
                simp only [Act.put, List.setIfInBounds_toArray, List.set_cons_zero, List.set_cons_succ, i64_w, i32_w]
                rfl
               refine one_ (i := 6) (N := some 97) #[true, true, true, true, true, true, true, false] rfl rfl (one_of HT_.out (by kernel_rfl)) (by decide) (fun K hK => ?_)
               refine goes_ Tryd.func13 (by kernel_rfl) rfl #[.agg #[.int .i64 a8, .int .i64 a7]] (by rfl) rfl rfl (by (try simp only [List.map_toArray, List.map_cons, List.map_nil]); first | done | rfl | (simp only [List.length_drop, List.length_take]; rfl)) ?_
               with_reducible refine (spec_RGPlace.calls kj55 a8 a7 p0 _ A69.out).mono ?_
               rintro e w73 ⟨rfl, hb⟩
               have e9 := (hb.cell (World.block_lt_of_cell? _ _ (hHeld.2.2.1))).trans (hHeld.2.2.1)
               have f2 := (hb.cell (World.block_lt_of_cell? _ _ (hHeld.2.2.2))).trans (hHeld.2.2.2)
               refine ⟨_, rfl, ?_⟩
               have n0_ := aM (Kd.R_below (by (with_reducible repeat (first | apply Kd.R_alloc | apply Kd.R_drewN | apply Kd.R_drew)); exact b3.out) hb)
               have n1_ := aM (bB (g := b4) (o := .cells #[.int .i64 a0_0, .int .i64 a0_1] 23 (0, 0)) (by (with_reducible repeat (first | refine bN ?_ _ | refine bD ?_ | refine bA ?_ _)); exact a0.out) hb)
               have n2_ := aM (bB (g := b5) (o := .cells #[.int .i64 a1_0, .int .i64 a1_1] 23 (0, 0)) (by (with_reducible repeat (first | refine bN ?_ _ | refine bD ?_ | refine bA ?_ _)); exact a1.out) hb)
               have n3_ := aM (bB (g := b7) (o := .cells #[.int .i64 a2_0, .int .i64 a2_1] 23 (0, 0)) (by (with_reducible repeat (first | refine bN ?_ _ | refine bD ?_ | refine bA ?_ _)); exact a2.out) hb)
               have n4_ := aM (bB (g := b0) (o := .cells #[.int .i64 e7, .int .i64 e8] 23 (0, 0)) (by (with_reducible repeat (first | refine bN ?_ _ | refine bD ?_ | refine bA ?_ _)); exact a5.out) hb)
               have n5_ := aM (bB (g := b1) (o := .cells #[.int .i64 a8, .int .i64 a7] 23 (0, 0)) (by (with_reducible repeat (first | refine bN ?_ _ | refine bD ?_ | refine bA ?_ _)); exact a4.out) hb)
               have n6_ := aM (wP (by repeat (first | (with_reducible first | exact HB.out | apply wA | apply wN | apply wD | refine wS ?_ c4.out | refine wS ?_ c8.out | refine wS ?_ c9.out | refine wS ?_ d1.out | refine wS ?_ d2.out) | exact HB.out)) hb)
               clear b3
               clear a0
               clear a1
               clear a2
               clear a5
               clear a4
               clear HB
               have b3 := n0_
               have a0 := n1_
               have a1 := n2_
               have a2 := n3_
               have a5 := n4_
               have a4 := n5_
               have HB := n6_
               clear n0_ n1_ n2_ n3_ n4_ n5_ n6_
               (try clear hb)
               (try clear hb2)
               (try clear hk)
               (try clear hi)
               refine hK.out _ _ ⟨(blk_cell a4.out 0).trans rfl, (blk_cell a4.out 1).trans rfl, e9, f2⟩ (fun hHeld => ?_)
               clear hK K
               refine norm_ (a' := ?_) ?_ ?_
               rotate_left
               ·show Act.put _ (some 97) _ = _
                simp only [Act.put, List.setIfInBounds_toArray, List.set_cons_zero, List.set_cons_succ, i64_w, i32_w]
                rfl
               refine pure_ (i := 7) (N := some 98) (v := ?_) (a' := ?_) #[true, true, true, true, true, true, true, true] rfl rfl (any_of HT_.out (by kernel_rfl)) (fun _ _ _ h => h) (Or.inl ⟨by rfl, ?_⟩) ?_ ?_
               rotate_left
               ·intro w'
                go_simp
                with_reducible rfl
               rotate_left
               ·simp only [Act.put, List.setIfInBounds_toArray, List.set_cons_zero, List.set_cons_succ, i64_w, i32_w]
                rfl
               refine done_ (done_of HT_.out (by kernel_rfl)) ?_
               have v4 : 0 ≤ (a6 : Int) := of_decide_eq_true (by first | (with_reducible assumption) | assumption)
               have v5 : a6 < (a3.length : Int) := of_decide_eq_true (by first | (with_reducible assumption) | assumption)
               obtain ⟨C6, D7, N9, O0⟩ := at_T23 (Kd.R_reads' b3.out).2.2 a6 v4 v5
               obtain rfl : b9 = C6 := (by injection D7)
               replace v4 := eq_true v4
               replace v5 := eq_true v5
               have aH_ := h2.out
               have aJ_ := g0.out
               have aL_ := h3.out
               have aM_ := g1.out
               have aN_ := h4.out
               have aO_ := g2.out
               have aP_ := e1.out
               have aR_ := e0.out
               have O1 : w73.cell? ⟨b1, 0, none⟩ = some (.int .i64 a8) := (blk_cell a4.out 0).trans rfl
               have O2 : w73.cell? ⟨b1, 1, none⟩ = some (.int .i64 a7) := (blk_cell a4.out 1).trans rfl
               have O3 := blk_frozen a4.out 0
               have O4 := blk_frozen a4.out 1
               try go_wp2
               go_roundg kj55
               case measure => have := HK1.out; have := HK2.out; have := t4.out; omega
               case rel => exact ⟨(wrap64 (a6 + 1)), (e7), (e8), ((rd_T23 a3 a6).f0), ((rd_T23 a3 a6).f1), (by first | rfl | (simp; done) | (simp [*]; done)), H', ⟨by have := HK1.out; have := HK2.out; have := t4.out; omega⟩, ⟨by (with_reducible repeat (first | apply Kd.R_alloc | apply Kd.R_drewN | apply Kd.R_drew)); exact Kd.R_mono (Kd.R_far (p := ⟨b1, 1, none⟩) (Kd.R_far (p := ⟨b1, 0, none⟩) (Kd.R_mono b3.out (fun k_ hk => (⟨hk, hk.2.2.2.2⟩ : _ ∧ k_ ≠ b1))) (fun _ hk => hk.2) (.int .i64 ((rd_T23 a3 a6).f0))) (fun _ hk => hk.2) (.int .i64 ((rd_T23 a3 a6).f1))) (fun _ hk => ⟨hk.1.1, ⟨hk.1.2.1, ⟨hk.1.2.2.1, ⟨hk.1.2.2.2.1, hk.1.2.2.2.2⟩⟩⟩⟩)⟩, ⟨by (with_reducible repeat (first | refine bN ?_ _ | refine bD ?_ | refine bA ?_ _)); refine blk_far ?_ g0.out _; (with_reducible repeat (first | refine bN ?_ _ | refine bD ?_ | refine bA ?_ _)); refine blk_far ?_ g0.out _; (with_reducible repeat (first | refine bN ?_ _ | refine bD ?_ | refine bA ?_ _)); exact a0.out⟩, ⟨by (with_reducible repeat (first | refine bN ?_ _ | refine bD ?_ | refine bA ?_ _)); refine blk_far ?_ g1.out _; (with_reducible repeat (first | refine bN ?_ _ | refine bD ?_ | refine bA ?_ _)); refine blk_far ?_ g1.out _; (with_reducible repeat (first | refine bN ?_ _ | refine bD ?_ | refine bA ?_ _)); exact a1.out⟩, ⟨by (with_reducible repeat (first | refine bN ?_ _ | refine bD ?_ | refine bA ?_ _)); refine blk_far ?_ g2.out _; (with_reducible repeat (first | refine bN ?_ _ | refine bD ?_ | refine bA ?_ _)); refine blk_far ?_ g2.out _; (with_reducible repeat (first | refine bN ?_ _ | refine bD ?_ | refine bA ?_ _)); exact a2.out⟩, ⟨by (with_reducible repeat (first | refine bN ?_ _ | refine bD ?_ | refine bA ?_ _)); refine blk_far ?_ e0.out _; (with_reducible repeat (first | refine bN ?_ _ | refine bD ?_ | refine bA ?_ _)); refine blk_far ?_ e0.out _; (with_reducible repeat (first | refine bN ?_ _ | refine bD ?_ | refine bA ?_ _)); exact a5.out⟩, ⟨by (with_reducible repeat (first | refine bN ?_ _ | refine bD ?_ | refine bA ?_ _)); refine blk_put (cs := #[.int .i64 ((rd_T23 a3 a6).f0), .int .i64 a7]) ?_ 1 _ rfl; (with_reducible repeat (first | refine bN ?_ _ | refine bD ?_ | refine bA ?_ _)); refine blk_put (cs := #[.int .i64 a8, .int .i64 a7]) ?_ 0 _ rfl; (with_reducible repeat (first | refine bN ?_ _ | refine bD ?_ | refine bA ?_ _)); exact a4.out⟩, ⟨by repeat (first | (with_reducible first | exact HB.out | apply wA | apply wN | apply wD | refine wS ?_ c4.out | refine wS ?_ c8.out | refine wS ?_ c9.out | refine wS ?_ d1.out | refine wS ?_ d2.out) | exact HB.out)⟩⟩
              ·rw [if_neg c70] at H
               have c70b0 : decide (p9 < p0) = false := decide_eq_false c70
               clear c70
               have H' := aM H
               clear H
               try go_wp2
               have n0_ := aM (Kd.R_drew b3.out)
               have n1_ := aM (bD a0.out)
               have n2_ := aM (bD a1.out)
               have n3_ := aM (bD a2.out)
               have n4_ := aM (bD a5.out)
               have n5_ := aM (bD a4.out)
               have n6_ := aM (wD HB.out)
               clear b3
               clear a0
               clear a1
               clear a2
               clear a5
               clear a4
               clear HB
               have b3 := n0_
               have a0 := n1_
               have a1 := n2_
               have a2 := n3_
               have a5 := n4_
               have a4 := n5_
               have HB := n6_
               clear n0_ n1_ n2_ n3_ n4_ n5_ n6_
               have q0 : 0 ≤ (a6 : Int) := of_decide_eq_true (by first | (with_reducible assumption) | assumption)
               have q2 : a6 < (a3.length : Int) := of_decide_eq_true (by first | (with_reducible assumption) | assumption)
               obtain ⟨t5, v3, o2, o3⟩ := at_T23 (Kd.R_reads' b3.out).2.2 a6 q0 q2
               obtain rfl : b9 = t5 := (by injection v3)
               replace q0 := eq_true q0
               replace q2 := eq_true q2
               refine start_ (n := 8) (S := fun w' => w'.cell? ⟨b1, 0, none⟩ = some (.int .i64 a8) ∧ w'.cell? ⟨b1, 1, none⟩ = some (.int .i64 a7) ∧ w'.cell? (b9.add ((a6).toNat * 2)) = some (.int .i64 ((rd_T23 a3 a6).f0)) ∧ w'.cell? ⟨(b9.add ((a6).toNat * 2)).block, (b9.add ((a6).toNat * 2)).off + 1, none⟩ = some (.int .i64 ((rd_T23 a3 a6).f1))) (ds := []) #[false, false, false, false, false, false, false, false] (by kernel_rfl) rfl rfl ⟨(blk_cell a4.out 0).trans rfl, (blk_cell a4.out 1).trans rfl, o2, o3⟩ (fun hHeld => ?_); refine with_tabW laws_FnRGCuts.tab14 laws_FnRGCuts.bits14 (fun HT_ HW_ => ?_)
               generalize wc.drew = w79 at b3 a0 a1 a2 a5 a4 HB o2 o3 hHeld ⊢
               refine pure_ (i := 0) (N := some 91) (v := ?_) (a' := ?_) #[true, false, false, false, false, false, false, false] rfl rfl (any_of HT_.out (by kernel_rfl)) (fun _ _ _ h => h) (Or.inl ⟨by rfl, ?_⟩) ?_ ?_
               rotate_left
               ·intro w'
                go_simp
                with_reducible rfl
               rotate_left
               ·simp only [Act.put, List.setIfInBounds_toArray, List.set_cons_zero, List.set_cons_succ, i64_w, i32_w]
                rfl
               refine pure_ (i := 1) (N := some 92) (v := ?_) (a' := ?_) #[true, true, false, false, false, false, false, false] rfl rfl (any_of HT_.out (by kernel_rfl)) (fun _ _ _ h => h) (Or.inl ⟨by rfl, ?_⟩) ?_ ?_
               rotate_left
               ·intro w'
                go_simp
                with_reducible rfl
               rotate_left
               ·simp only [Act.put, List.setIfInBounds_toArray, List.set_cons_zero, List.set_cons_succ, i64_w, i32_w]
                rfl
               refine pure_ (i := 2) (N := some 93) (v := ?_) (a' := ?_) #[true, true, true, false, false, false, false, false] rfl rfl (any_of HT_.out (by kernel_rfl)) (fun _ _ _ h => h) (Or.inl ⟨by rfl, ?_⟩) ?_ ?_
               rotate_left
               ·intro w'
                go_simp
                with_reducible rfl
               rotate_left
               ·simp only [Act.put, List.setIfInBounds_toArray, List.set_cons_zero, List.set_cons_succ, i64_w, i32_w]
                rfl
               refine take_ (i := 3) (N := some 94) (v := ?_) (a' := ?_) #[true, true, true, true, false, false, false, false] rfl rfl (take_ofW HT_.out HW_.out (by kernel_rfl)) (fun _ _ _ h => h) (Or.inl ⟨by rfl, ?_⟩) hHeld ?_ ?_
               rotate_left
               ·rintro w' ⟨s0, s1, s2, s3⟩
                go_simp
                with_reducible rfl
               rotate_left
               ·simp only [Act.put, List.setIfInBounds_toArray, List.set_cons_zero, List.set_cons_succ, i64_w, i32_w]
                rfl
               refine take_ (i := 5) (N := some 96) (v := ?_) (a' := ?_) #[true, true, true, true, false, true, false, false] rfl rfl (take_ofW HT_.out HW_.out (by kernel_rfl)) (fun _ _ _ h => h) (Or.inl ⟨by rfl, ?_⟩) hHeld ?_ ?_
               rotate_left
               ·rintro w' ⟨s0, s1, s2, s3⟩
                go_simp
                with_reducible rfl
               rotate_left
               ·simp only [Act.put, List.setIfInBounds_toArray, List.set_cons_zero, List.set_cons_succ, i64_w, i32_w]
                rfl
               refine one_ (i := 4) (N := some 95) #[true, true, true, true, true, true, false, false] rfl rfl (one_of HT_.out (by kernel_rfl)) (by decide) (fun K hK => ?_)
               refine goes_ Tryd.func13 (by kernel_rfl) rfl #[.agg #[.int .i64 ((rd_T23 a3 a6).f0), .int .i64 ((rd_T23 a3 a6).f1)]] (by rfl) rfl rfl (by (try simp only [List.map_toArray, List.map_cons, List.map_nil]); first | done | rfl | (simp only [List.length_drop, List.length_take]; rfl)) ?_
               with_reducible refine (spec_RGPlace.calls kj55 ((rd_T23 a3 a6).f0) ((rd_T23 a3 a6).f1) p9 _ A68.out).mono ?_
               rintro e w80 ⟨rfl, hb⟩
               have e9 := (hb.cell (World.block_lt_of_cell? _ _ (hHeld.2.2.1))).trans (hHeld.2.2.1)
               have f2 := (hb.cell (World.block_lt_of_cell? _ _ (hHeld.2.2.2))).trans (hHeld.2.2.2)
               refine ⟨_, rfl, ?_⟩
               have n0_ := aM (Kd.R_below (by (with_reducible repeat (first | apply Kd.R_alloc | apply Kd.R_drewN | apply Kd.R_drew)); exact b3.out) hb)
               have n1_ := aM (bB (g := b4) (o := .cells #[.int .i64 a0_0, .int .i64 a0_1] 23 (0, 0)) (by (with_reducible repeat (first | refine bN ?_ _ | refine bD ?_ | refine bA ?_ _)); exact a0.out) hb)
               have n2_ := aM (bB (g := b5) (o := .cells #[.int .i64 a1_0, .int .i64 a1_1] 23 (0, 0)) (by (with_reducible repeat (first | refine bN ?_ _ | refine bD ?_ | refine bA ?_ _)); exact a1.out) hb)
               have n3_ := aM (bB (g := b7) (o := .cells #[.int .i64 a2_0, .int .i64 a2_1] 23 (0, 0)) (by (with_reducible repeat (first | refine bN ?_ _ | refine bD ?_ | refine bA ?_ _)); exact a2.out) hb)
               have n4_ := aM (bB (g := b0) (o := .cells #[.int .i64 e7, .int .i64 e8] 23 (0, 0)) (by (with_reducible repeat (first | refine bN ?_ _ | refine bD ?_ | refine bA ?_ _)); exact a5.out) hb)
               have n5_ := aM (bB (g := b1) (o := .cells #[.int .i64 a8, .int .i64 a7] 23 (0, 0)) (by (with_reducible repeat (first | refine bN ?_ _ | refine bD ?_ | refine bA ?_ _)); exact a4.out) hb)
               have n6_ := aM (wP (by repeat (first | (with_reducible first | exact HB.out | apply wA | apply wN | apply wD | refine wS ?_ c4.out | refine wS ?_ c8.out | refine wS ?_ c9.out | refine wS ?_ d1.out | refine wS ?_ d2.out) | exact HB.out)) hb)
               clear b3
               clear a0
               clear a1
               clear a2
               clear a5
               clear a4
               clear HB
               have b3 := n0_
               have a0 := n1_
               have a1 := n2_
               have a2 := n3_
               have a5 := n4_
               have a4 := n5_
               have HB := n6_
               clear n0_ n1_ n2_ n3_ n4_ n5_ n6_
               (try clear hb)
               (try clear hb2)
               (try clear hk)
               (try clear hi)
               refine hK.out _ _ ⟨(blk_cell a4.out 0).trans rfl, (blk_cell a4.out 1).trans rfl, e9, f2⟩ (fun hHeld => ?_)
               clear hK K
               refine norm_ (a' := ?_) ?_ ?_
               rotate_left
               ·show Act.put _ (some 95) _ = _
                simp only [Act.put, List.setIfInBounds_toArray, List.set_cons_zero, List.set_cons_succ, i64_w, i32_w]
                rfl
               refine one_ (i := 6) (N := some 97) #[true, true, true, true, true, true, true, false] rfl rfl (one_of HT_.out (by kernel_rfl)) (by decide) (fun K hK => ?_)
               refine goes_ Tryd.func13 (by kernel_rfl) rfl #[.agg #[.int .i64 a8, .int .i64 a7]] (by rfl) rfl rfl (by (try simp only [List.map_toArray, List.map_cons, List.map_nil]); first | done | rfl | (simp only [List.length_drop, List.length_take]; rfl)) ?_
               with_reducible refine (spec_RGPlace.calls kj55 a8 a7 p0 _ A69.out).mono ?_
               rintro e w81 ⟨rfl, hb⟩
               have e9 := (hb.cell (World.block_lt_of_cell? _ _ (hHeld.2.2.1))).trans (hHeld.2.2.1)
               have f2 := (hb.cell (World.block_lt_of_cell? _ _ (hHeld.2.2.2))).trans (hHeld.2.2.2)
               refine ⟨_, rfl, ?_⟩
               have n0_ := aM (Kd.R_below (by (with_reducible repeat (first | apply Kd.R_alloc | apply Kd.R_drewN | apply Kd.R_drew)); exact b3.out) hb)
               have n1_ := aM (bB (g := b4) (o := .cells #[.int .i64 a0_0, .int .i64 a0_1] 23 (0, 0)) (by (with_reducible repeat (first | refine bN ?_ _ | refine bD ?_ | refine bA ?_ _)); exact a0.out) hb)
               have n2_ := aM (bB (g := b5) (o := .cells #[.int .i64 a1_0, .int .i64 a1_1] 23 (0, 0)) (by (with_reducible repeat (first | refine bN ?_ _ | refine bD ?_ | refine bA ?_ _)); exact a1.out) hb)
               have n3_ := aM (bB (g := b7) (o := .cells #[.int .i64 a2_0, .int .i64 a2_1] 23 (0, 0)) (by (with_reducible repeat (first | refine bN ?_ _ | refine bD ?_ | refine bA ?_ _)); exact a2.out) hb)
               have n4_ := aM (bB (g := b0) (o := .cells #[.int .i64 e7, .int .i64 e8] 23 (0, 0)) (by (with_reducible repeat (first | refine bN ?_ _ | refine bD ?_ | refine bA ?_ _)); exact a5.out) hb)
               have n5_ := aM (bB (g := b1) (o := .cells #[.int .i64 a8, .int .i64 a7] 23 (0, 0)) (by (with_reducible repeat (first | refine bN ?_ _ | refine bD ?_ | refine bA ?_ _)); exact a4.out) hb)
               have n6_ := aM (wP (by repeat (first | (with_reducible first | exact HB.out | apply wA | apply wN | apply wD | refine wS ?_ c4.out | refine wS ?_ c8.out | refine wS ?_ c9.out | refine wS ?_ d1.out | refine wS ?_ d2.out) | exact HB.out)) hb)
               clear b3
               clear a0
               clear a1
               clear a2
               clear a5
               clear a4
               clear HB
               have b3 := n0_
               have a0 := n1_
               have a1 := n2_
               have a2 := n3_
               have a5 := n4_
               have a4 := n5_
               have HB := n6_
               clear n0_ n1_ n2_ n3_ n4_ n5_ n6_
               (try clear hb)
               (try clear hb2)
               (try clear hk)
               (try clear hi)
               refine hK.out _ _ ⟨(blk_cell a4.out 0).trans rfl, (blk_cell a4.out 1).trans rfl, e9, f2⟩ (fun hHeld => ?_)
               clear hK K
               refine norm_ (a' := ?_) ?_ ?_
               rotate_left
               ·show Act.put _ (some 97) _ = _
                simp only [Act.put, List.setIfInBounds_toArray, List.set_cons_zero, List.set_cons_succ, i64_w, i32_w]
                rfl
               refine pure_ (i := 7) (N := some 98) (v := ?_) (a' := ?_) #[true, true, true, true, true, true, true, true] rfl rfl (any_of HT_.out (by kernel_rfl)) (fun _ _ _ h => h) (Or.inl ⟨by rfl, ?_⟩) ?_ ?_
               rotate_left
               ·intro w'
                go_simp
                with_reducible rfl
               rotate_left
               ·simp only [Act.put, List.setIfInBounds_toArray, List.set_cons_zero, List.set_cons_succ, i64_w, i32_w]
                rfl
               refine done_ (done_of HT_.out (by kernel_rfl)) ?_
               try go_wp2
               go_roundg kj55
               case measure => have := HK1.out; have := HK2.out; have := t4.out; omega
               case rel => exact ⟨(wrap64 (a6 + 1)), (e7), (e8), (a8), (a7), (by first | rfl | (simp; done) | (simp [*]; done)), H', ⟨by have := HK1.out; have := HK2.out; have := t4.out; omega⟩, ⟨by (with_reducible repeat (first | apply Kd.R_alloc | apply Kd.R_drewN | apply Kd.R_drew)); exact b3.out⟩, ⟨by (with_reducible repeat (first | refine bN ?_ _ | refine bD ?_ | refine bA ?_ _)); exact a0.out⟩, ⟨by (with_reducible repeat (first | refine bN ?_ _ | refine bD ?_ | refine bA ?_ _)); exact a1.out⟩, ⟨by (with_reducible repeat (first | refine bN ?_ _ | refine bD ?_ | refine bA ?_ _)); exact a2.out⟩, ⟨by (with_reducible repeat (first | refine bN ?_ _ | refine bD ?_ | refine bA ?_ _)); exact a5.out⟩, ⟨by (with_reducible repeat (first | refine bN ?_ _ | refine bD ?_ | refine bA ?_ _)); exact a4.out⟩, ⟨by repeat (first | (with_reducible first | exact HB.out | apply wA | apply wN | apply wD | refine wS ?_ c4.out | refine wS ?_ c8.out | refine wS ?_ c9.out | refine wS ?_ d1.out | refine wS ?_ d2.out) | exact HB.out)⟩⟩
             ·rw [if_neg c67] at H
              exact absurd H (by simp)
            ·rw [if_neg c66] at H
             exact absurd H (by simp)
         ·rw [if_neg c53] at H
          exact absurd H (by simp)
        ·rw [if_neg c52] at H
         exact absurd H (by simp)
    ·rw [if_neg c26] at H
     have c26b0 : decide (a6 < 3) = false := decide_eq_false c26
     clear c26
     replace H := Option.bind_eq_some_iff.mp H
     obtain ⟨⟨d4, d5, v6⟩, B6, H⟩ := H
     replace H : ((impl_RGMin.f a3).bind fun t6 => (if v6 = true then (if t6.2.2 = true then (if (d4 == b2 && (d5 == a9)) = true then (some (t6.1 == a8 && (t6.2.1 == a7))) else (some false)) else (some false)) else (some false))) = some r := H
     have A82 := aM B6
     clear B6
     replace H := Option.bind_eq_some_iff.mp H
     obtain ⟨⟨q3, q4, t7⟩, B7, H⟩ := H
     replace H : (if v6 = true then (if t7 = true then (if (d4 == b2 && (d5 == a9)) = true then (some (q3 == a8 && (q4 == a7))) else (some false)) else (some false)) else (some false)) = some r := H
     have A83 := aM B7
     clear B7
     by_cases c84 : v6 = true
     ·subst c84
      have H1 : (if t7 = true then (if (d4 == b2 && (d5 == a9)) = true then (some (q3 == a8 && (q4 == a7))) else (some false)) else (some false)) = some r := by rw [if_pos rfl] at H; exact H
      clear H
      have H := H1
      clear H1
      by_cases c85 : t7 = true
      ·subst c85
       have H1 : (if (d4 == b2 && (d5 == a9)) = true then (some (q3 == a8 && (q4 == a7))) else (some false)) = some r := by rw [if_pos rfl] at H; exact H
       clear H
       have H := H1
       clear H1
       by_cases c86 : (d4 == b2 && (d5 == a9)) = true
       ·rw [if_pos c86] at H
        have c86b0 : (d4 == b2 && (d5 == a9)) = true := c86
        (try (have c86b1 : decide (d4 = b2 && (d5 == a9)) = true := by simpa using c86))
        (try (have c86b2 : (d4 == b2 && (d5 == a9)) = true := by simpa using c86))
        clear c86
        obtain rfl := Option.some.inj H
        go_wp2_with (first | ((with_reducible refine gC (f := 14) rfl ?_); refine gL (some 105) rfl rfl Tryd.func14 (by kernel_rfl) rfl #[.slice (some b9) a3.length h6] rfl (by (try simp only [List.map_toArray, List.map_cons, List.map_nil]); first | done | rfl | (simp only [List.length_drop, List.length_take]; rfl)) ?_; (with_reducible refine (impl_RGMax.calls _ _ a3 d4 d5 true _ ?side1 ?side2 A82.out).mono ?_); (case side1 => repeat (first | exact (Kd.R_reads' b3.out).2.2 | (with_reducible refine Kd.C_alloc ?_ _) | (with_reducible refine Kd.C_drewN ?_ _) | (with_reducible refine Kd.C_drew ?_))); (case side2 => exact (Kd.R_reads' b3.out).2.1); rintro e w87 ⟨rfl, hb⟩; refine ⟨_, rfl, ?_⟩; have n0_ := aM (Kd.R_below (by (with_reducible repeat (first | apply Kd.R_alloc | apply Kd.R_drewN | apply Kd.R_drew)); exact b3.out) hb); have n1_ := aM (bB (g := b4) (o := .cells #[.int .i64 a0_0, .int .i64 a0_1] 23 (0, 0)) (by (with_reducible repeat (first | refine bN ?_ _ | refine bD ?_ | refine bA ?_ _)); exact a0.out) hb); have n2_ := aM (bB (g := b5) (o := .cells #[.int .i64 a1_0, .int .i64 a1_1] 23 (0, 0)) (by (with_reducible repeat (first | refine bN ?_ _ | refine bD ?_ | refine bA ?_ _)); exact a1.out) hb); have n3_ := aM (bB (g := b7) (o := .cells #[.int .i64 a2_0, .int .i64 a2_1] 23 (0, 0)) (by (with_reducible repeat (first | refine bN ?_ _ | refine bD ?_ | refine bA ?_ _)); exact a2.out) hb); have n4_ := aM (bB (g := b0) (o := .cells #[.int .i64 b2, .int .i64 a9] 23 (0, 0)) (by (with_reducible repeat (first | refine bN ?_ _ | refine bD ?_ | refine bA ?_ _)); exact a5.out) hb); have n5_ := aM (bB (g := b1) (o := .cells #[.int .i64 a8, .int .i64 a7] 23 (0, 0)) (by (with_reducible repeat (first | refine bN ?_ _ | refine bD ?_ | refine bA ?_ _)); exact a4.out) hb); have n6_ := aM (wP (by repeat (first | (with_reducible first | exact HB.out | apply wA | apply wN | apply wD | refine wS ?_ c4.out | refine wS ?_ c8.out | refine wS ?_ c9.out | refine wS ?_ d1.out | refine wS ?_ d2.out) | exact HB.out)) hb); clear b3; clear a0; clear a1; clear a2; clear a5; clear a4; clear HB; have b3 := n0_; have a0 := n1_; have a1 := n2_; have a2 := n3_; have a5 := n4_; have a4 := n5_; have HB := n6_; clear n0_ n1_ n2_ n3_ n4_ n5_ n6_; (try clear hb); (try clear hb2); (try clear hk); (try clear hi)) | ((with_reducible refine gate_dst (N := 14) rfl ?_); refine box_event ?hg (N := 14) ?hd (cs := #[.int .i64 0, .int .i64 0]) (t := 23) ?hr ?_; (case hd => rfl); (case hg => rfl); (case hr => first | (go_simp; done) | (go_simp; rfl)); intro b6 hg w88 hbox hb; have n0_ := aM (Kd.R_below (Kd.R_elderB (by (with_reducible repeat (first | apply Kd.R_alloc | apply Kd.R_drewN | apply Kd.R_drew)); exact b3.out) b6 (Nat.le_of_eq hg.symm)) hb); have n1_ := aM (bB (g := b4) (o := .cells #[.int .i64 a0_0, .int .i64 a0_1] 23 (0, 0)) (by (with_reducible repeat (first | refine bN ?_ _ | refine bD ?_ | refine bA ?_ _)); exact a0.out) hb); have n2_ := aM (bB (g := b5) (o := .cells #[.int .i64 a1_0, .int .i64 a1_1] 23 (0, 0)) (by (with_reducible repeat (first | refine bN ?_ _ | refine bD ?_ | refine bA ?_ _)); exact a1.out) hb); have n3_ := aM (bB (g := b7) (o := .cells #[.int .i64 a2_0, .int .i64 a2_1] 23 (0, 0)) (by (with_reducible repeat (first | refine bN ?_ _ | refine bD ?_ | refine bA ?_ _)); exact a2.out) hb); have n4_ := aM (bB (g := b0) (o := .cells #[.int .i64 b2, .int .i64 a9] 23 (0, 0)) (by (with_reducible repeat (first | refine bN ?_ _ | refine bD ?_ | refine bA ?_ _)); exact a5.out) hb); have n5_ := aM (bB (g := b1) (o := .cells #[.int .i64 a8, .int .i64 a7] 23 (0, 0)) (by (with_reducible repeat (first | refine bN ?_ _ | refine bD ?_ | refine bA ?_ _)); exact a4.out) hb); have n6_ := aM (wP (by repeat (first | (with_reducible first | exact HB.out | apply wA | apply wN | apply wD | refine wS ?_ c4.out | refine wS ?_ c8.out | refine wS ?_ c9.out | refine wS ?_ d1.out | refine wS ?_ d2.out) | exact HB.out)) hb); have n7_ := aM (hbox); have n8_ := aM ((by rw [hg]; exact (below_size (by repeat (first | (with_reducible first | exact HB.out | apply wA | apply wN | apply wD | refine wS ?_ c4.out | refine wS ?_ c8.out | refine wS ?_ c9.out | refine wS ?_ d1.out | refine wS ?_ d2.out) | exact HB.out))) : w.heap.size ≤ b6)); have n9_ := aM ((by rw [hg]; exact (below_size (by repeat (first | (with_reducible first | exact HB.out | apply wA | apply wN | apply wD | refine wS ?_ c4.out | refine wS ?_ c8.out | refine wS ?_ c9.out | refine wS ?_ d1.out | refine wS ?_ d2.out) | exact HB.out))) : w.heap.size ≤ b6)); have d6 := aM ((by rw [hg]; exact Nat.ne_of_lt (bL (g := b4) (o := .cells #[.int .i64 a0_0, .int .i64 a0_1] 23 (0, 0)) (by (with_reducible repeat (first | refine bN ?_ _ | refine bD ?_ | refine bA ?_ _)); exact a0.out)) : b4 ≠ b6)); have d7 := aM ((by rw [hg]; exact Nat.ne_of_gt (bL (g := b4) (o := .cells #[.int .i64 a0_0, .int .i64 a0_1] 23 (0, 0)) (by (with_reducible repeat (first | refine bN ?_ _ | refine bD ?_ | refine bA ?_ _)); exact a0.out)) : b6 ≠ b4)); have d8 := aM ((by rw [hg]; exact Nat.ne_of_lt (bL (g := b5) (o := .cells #[.int .i64 a1_0, .int .i64 a1_1] 23 (0, 0)) (by (with_reducible repeat (first | refine bN ?_ _ | refine bD ?_ | refine bA ?_ _)); exact a1.out)) : b5 ≠ b6)); have d9 := aM ((by rw [hg]; exact Nat.ne_of_gt (bL (g := b5) (o := .cells #[.int .i64 a1_0, .int .i64 a1_1] 23 (0, 0)) (by (with_reducible repeat (first | refine bN ?_ _ | refine bD ?_ | refine bA ?_ _)); exact a1.out)) : b6 ≠ b5)); have f3 := aM ((by rw [hg]; exact Nat.ne_of_lt (bL (g := b7) (o := .cells #[.int .i64 a2_0, .int .i64 a2_1] 23 (0, 0)) (by (with_reducible repeat (first | refine bN ?_ _ | refine bD ?_ | refine bA ?_ _)); exact a2.out)) : b7 ≠ b6)); have f4 := aM ((by rw [hg]; exact Nat.ne_of_gt (bL (g := b7) (o := .cells #[.int .i64 a2_0, .int .i64 a2_1] 23 (0, 0)) (by (with_reducible repeat (first | refine bN ?_ _ | refine bD ?_ | refine bA ?_ _)); exact a2.out)) : b6 ≠ b7)); have f5 := aM ((by rw [hg]; exact Nat.ne_of_lt (bL (g := b0) (o := .cells #[.int .i64 b2, .int .i64 a9] 23 (0, 0)) (by (with_reducible repeat (first | refine bN ?_ _ | refine bD ?_ | refine bA ?_ _)); exact a5.out)) : b0 ≠ b6)); have g3 := aM ((by rw [hg]; exact Nat.ne_of_gt (bL (g := b0) (o := .cells #[.int .i64 b2, .int .i64 a9] 23 (0, 0)) (by (with_reducible repeat (first | refine bN ?_ _ | refine bD ?_ | refine bA ?_ _)); exact a5.out)) : b6 ≠ b0)); have g4 := aM ((by rw [hg]; exact Nat.ne_of_lt (bL (g := b1) (o := .cells #[.int .i64 a8, .int .i64 a7] 23 (0, 0)) (by (with_reducible repeat (first | refine bN ?_ _ | refine bD ?_ | refine bA ?_ _)); exact a4.out)) : b1 ≠ b6)); have g5 := aM ((by rw [hg]; exact Nat.ne_of_gt (bL (g := b1) (o := .cells #[.int .i64 a8, .int .i64 a7] 23 (0, 0)) (by (with_reducible repeat (first | refine bN ?_ _ | refine bD ?_ | refine bA ?_ _)); exact a4.out)) : b6 ≠ b1)); clear b3; clear a0; clear a1; clear a2; clear a5; clear a4; clear HB; have b3 := n0_; have a0 := n1_; have a1 := n2_; have a2 := n3_; have a5 := n4_; have a4 := n5_; have HB := n6_; have d3 := n7_; have t8 := n8_; have f9 := n9_; have e2 := d6; have h7 := d7; have e3 := d8; have h8 := d9; have e4 := f3; have h9 := f4; have e5 := f5; have j0 := g3; have e6 := g4; have j1 := g5; clear n0_ n1_ n2_ n3_ n4_ n5_ n6_ n7_ n8_ n9_ d6 d7 d8 d9 f3 f4 f5 g3 g4 g5; clear hb hbox hg; have aT_ := h7.out; have aU_ := e2.out; have aV_ := h8.out; have aX_ := e3.out; have aY_ := h9.out; have aZ_ := e4.out; have ba_ := j0.out; have bb_ := e5.out; have bc_ := j1.out; have bd_ := e6.out; have O5 : w88.cell? ⟨b6, 0, none⟩ = some (.int .i64 0) := (blk_cell d3.out 0).trans rfl; have O6 : w88.cell? ⟨b6, 1, none⟩ = some (.int .i64 0) := (blk_cell d3.out 1).trans rfl; have O7 := blk_frozen d3.out 0; have O8 := blk_frozen d3.out 1) | ((with_reducible refine gC (f := 15) rfl ?_); refine gL (some 110) rfl rfl Tryd.func15 (by kernel_rfl) rfl #[.slice (some b9) a3.length h6] rfl (by (try simp only [List.map_toArray, List.map_cons, List.map_nil]); first | done | rfl | (simp only [List.length_drop, List.length_take]; rfl)) ?_; (with_reducible refine (impl_RGMin.calls _ _ a3 q3 q4 true _ ?side1 ?side2 A83.out).mono ?_); (case side1 => refine (Kd.R_reads' (e := 23) (base := w.heap.size) (ok := fun k_ => ((k_ ≠ b4 ∧ (k_ ≠ b5 ∧ (k_ ≠ b7 ∧ (k_ ≠ b0 ∧ k_ ≠ b1)))) ∧ k_ ≠ b6)) (n := a3.length) (c := h6) ?_).2.2; exact (by (with_reducible repeat (first | apply Kd.R_alloc | apply Kd.R_drewN | apply Kd.R_drew)); exact (Kd.R_mono (Kd.R_far (p := ⟨b6, 1, none⟩) (Kd.R_far (p := ⟨b6, 0, none⟩) (Kd.R_mono b3.out (fun k_ hk => (⟨hk, hk.2⟩ : _ ∧ k_ ≠ b6))) (fun _ hk => hk.2) (.int .i64 d4)) (fun _ hk => hk.2) (.int .i64 d5)) (fun _ h_ => h_.1)))); (case side2 => exact (Kd.R_reads' b3.out).2.1); rintro e w95 ⟨rfl, hb⟩; refine ⟨_, rfl, ?_⟩; have n0_ := aM (Kd.R_below (by (with_reducible repeat (first | apply Kd.R_alloc | apply Kd.R_drewN | apply Kd.R_drew)); exact (Kd.R_mono (Kd.R_far (p := ⟨b6, 1, none⟩) (Kd.R_far (p := ⟨b6, 0, none⟩) (Kd.R_mono b3.out (fun k_ hk => (⟨hk, hk.2⟩ : _ ∧ k_ ≠ b6))) (fun _ hk => hk.2) (.int .i64 d4)) (fun _ hk => hk.2) (.int .i64 d5)) (fun _ h_ => h_.1))) hb); have n1_ := aM (bB (g := b4) (o := .cells #[.int .i64 a0_0, .int .i64 a0_1] 23 (0, 0)) (by (with_reducible repeat (first | refine bN ?_ _ | refine bD ?_ | refine bA ?_ _)); refine blk_far ?_ e2.out _; (with_reducible repeat (first | refine bN ?_ _ | refine bD ?_ | refine bA ?_ _)); refine blk_far ?_ e2.out _; (with_reducible repeat (first | refine bN ?_ _ | refine bD ?_ | refine bA ?_ _)); exact a0.out) hb); have n2_ := aM (bB (g := b5) (o := .cells #[.int .i64 a1_0, .int .i64 a1_1] 23 (0, 0)) (by (with_reducible repeat (first | refine bN ?_ _ | refine bD ?_ | refine bA ?_ _)); refine blk_far ?_ e3.out _; (with_reducible repeat (first | refine bN ?_ _ | refine bD ?_ | refine bA ?_ _)); refine blk_far ?_ e3.out _; (with_reducible repeat (first | refine bN ?_ _ | refine bD ?_ | refine bA ?_ _)); exact a1.out) hb); have n3_ := aM (bB (g := b7) (o := .cells #[.int .i64 a2_0, .int .i64 a2_1] 23 (0, 0)) (by (with_reducible repeat (first | refine bN ?_ _ | refine bD ?_ | refine bA ?_ _)); refine blk_far ?_ e4.out _; (with_reducible repeat (first | refine bN ?_ _ | refine bD ?_ | refine bA ?_ _)); refine blk_far ?_ e4.out _; (with_reducible repeat (first | refine bN ?_ _ | refine bD ?_ | refine bA ?_ _)); exact a2.out) hb); have n4_ := aM (bB (g := b0) (o := .cells #[.int .i64 b2, .int .i64 a9] 23 (0, 0)) (by (with_reducible repeat (first | refine bN ?_ _ | refine bD ?_ | refine bA ?_ _)); refine blk_far ?_ e5.out _; (with_reducible repeat (first | refine bN ?_ _ | refine bD ?_ | refine bA ?_ _)); refine blk_far ?_ e5.out _; (with_reducible repeat (first | refine bN ?_ _ | refine bD ?_ | refine bA ?_ _)); exact a5.out) hb); have n5_ := aM (bB (g := b1) (o := .cells #[.int .i64 a8, .int .i64 a7] 23 (0, 0)) (by (with_reducible repeat (first | refine bN ?_ _ | refine bD ?_ | refine bA ?_ _)); refine blk_far ?_ e6.out _; (with_reducible repeat (first | refine bN ?_ _ | refine bD ?_ | refine bA ?_ _)); refine blk_far ?_ e6.out _; (with_reducible repeat (first | refine bN ?_ _ | refine bD ?_ | refine bA ?_ _)); exact a4.out) hb); have n6_ := aM (bB (g := b6) (o := .cells #[.int .i64 d4, .int .i64 d5] 23 (0, 0)) (by (with_reducible repeat (first | refine bN ?_ _ | refine bD ?_ | refine bA ?_ _)); refine blk_put (cs := #[.int .i64 d4, .int .i64 0]) ?_ 1 _ rfl; (with_reducible repeat (first | refine bN ?_ _ | refine bD ?_ | refine bA ?_ _)); refine blk_put (cs := #[.int .i64 0, .int .i64 0]) ?_ 0 _ rfl; (with_reducible repeat (first | refine bN ?_ _ | refine bD ?_ | refine bA ?_ _)); exact d3.out) hb); have n7_ := aM (wP (by repeat (first | (with_reducible first | exact HB.out | apply wA | apply wN | apply wD | refine wS ?_ c4.out | refine wS ?_ c8.out | refine wS ?_ c9.out | refine wS ?_ d1.out | refine wS ?_ d2.out | refine wS ?_ f9.out) | exact HB.out)) hb); clear b3; clear a0; clear a1; clear a2; clear a5; clear a4; clear d3; clear HB; have b3 := n0_; have a0 := n1_; have a1 := n2_; have a2 := n3_; have a5 := n4_; have a4 := n5_; have d3 := n6_; have HB := n7_; clear n0_ n1_ n2_ n3_ n4_ n5_ n6_ n7_; (try clear hb); (try clear hb2); (try clear hk); (try clear hi)) | ((with_reducible refine gate_dst (N := 16) rfl ?_); refine box_event ?hg (N := 16) ?hd (cs := #[.int .i64 0, .int .i64 0]) (t := 23) ?hr ?_; (case hd => rfl); (case hg => rfl); (case hr => first | (go_simp; done) | (go_simp; rfl)); intro d0 hg w96 hbox hb; have n0_ := aM (Kd.R_below (Kd.R_elderB (by (with_reducible repeat (first | apply Kd.R_alloc | apply Kd.R_drewN | apply Kd.R_drew)); exact b3.out) d0 (Nat.le_of_eq hg.symm)) hb); have n1_ := aM (bB (g := b4) (o := .cells #[.int .i64 a0_0, .int .i64 a0_1] 23 (0, 0)) (by (with_reducible repeat (first | refine bN ?_ _ | refine bD ?_ | refine bA ?_ _)); exact a0.out) hb); have n2_ := aM (bB (g := b5) (o := .cells #[.int .i64 a1_0, .int .i64 a1_1] 23 (0, 0)) (by (with_reducible repeat (first | refine bN ?_ _ | refine bD ?_ | refine bA ?_ _)); exact a1.out) hb); have n3_ := aM (bB (g := b7) (o := .cells #[.int .i64 a2_0, .int .i64 a2_1] 23 (0, 0)) (by (with_reducible repeat (first | refine bN ?_ _ | refine bD ?_ | refine bA ?_ _)); exact a2.out) hb); have n4_ := aM (bB (g := b0) (o := .cells #[.int .i64 b2, .int .i64 a9] 23 (0, 0)) (by (with_reducible repeat (first | refine bN ?_ _ | refine bD ?_ | refine bA ?_ _)); exact a5.out) hb); have n5_ := aM (bB (g := b1) (o := .cells #[.int .i64 a8, .int .i64 a7] 23 (0, 0)) (by (with_reducible repeat (first | refine bN ?_ _ | refine bD ?_ | refine bA ?_ _)); exact a4.out) hb); have n6_ := aM (bB (g := b6) (o := .cells #[.int .i64 d4, .int .i64 d5] 23 (0, 0)) (by (with_reducible repeat (first | refine bN ?_ _ | refine bD ?_ | refine bA ?_ _)); exact d3.out) hb); have n7_ := aM (wP (by repeat (first | (with_reducible first | exact HB.out | apply wA | apply wN | apply wD | refine wS ?_ c4.out | refine wS ?_ c8.out | refine wS ?_ c9.out | refine wS ?_ d1.out | refine wS ?_ d2.out | refine wS ?_ f9.out) | exact HB.out)) hb); have n8_ := aM (hbox); have n9_ := aM ((by rw [hg]; exact (below_size (by repeat (first | (with_reducible first | exact HB.out | apply wA | apply wN | apply wD | refine wS ?_ c4.out | refine wS ?_ c8.out | refine wS ?_ c9.out | refine wS ?_ d1.out | refine wS ?_ d2.out | refine wS ?_ f9.out) | exact HB.out))) : w.heap.size ≤ d0)); have d6 := aM ((by rw [hg]; exact (below_size (by repeat (first | (with_reducible first | exact HB.out | apply wA | apply wN | apply wD | refine wS ?_ c4.out | refine wS ?_ c8.out | refine wS ?_ c9.out | refine wS ?_ d1.out | refine wS ?_ d2.out | refine wS ?_ f9.out) | exact HB.out))) : w.heap.size ≤ d0)); have d7 := aM ((by rw [hg]; exact Nat.ne_of_lt (bL (g := b4) (o := .cells #[.int .i64 a0_0, .int .i64 a0_1] 23 (0, 0)) (by (with_reducible repeat (first | refine bN ?_ _ | refine bD ?_ | refine bA ?_ _)); exact a0.out)) : b4 ≠ d0)); have d8 := aM ((by rw [hg]; exact Nat.ne_of_gt (bL (g := b4) (o := .cells #[.int .i64 a0_0, .int .i64 a0_1] 23 (0, 0)) (by (with_reducible repeat (first | refine bN ?_ _ | refine bD ?_ | refine bA ?_ _)); exact a0.out)) : d0 ≠ b4)); have d9 := aM ((by rw [hg]; exact Nat.ne_of_lt (bL (g := b5) (o := .cells #[.int .i64 a1_0, .int .i64 a1_1] 23 (0, 0)) (by (with_reducible repeat (first | refine bN ?_ _ | refine bD ?_ | refine bA ?_ _)); exact a1.out)) : b5 ≠ d0)); have f3 := aM ((by rw [hg]; exact Nat.ne_of_gt (bL (g := b5) (o := .cells #[.int .i64 a1_0, .int .i64 a1_1] 23 (0, 0)) (by (with_reducible repeat (first | refine bN ?_ _ | refine bD ?_ | refine bA ?_ _)); exact a1.out)) : d0 ≠ b5)); have f4 := aM ((by rw [hg]; exact Nat.ne_of_lt (bL (g := b7) (o := .cells #[.int .i64 a2_0, .int .i64 a2_1] 23 (0, 0)) (by (with_reducible repeat (first | refine bN ?_ _ | refine bD ?_ | refine bA ?_ _)); exact a2.out)) : b7 ≠ d0)); have f5 := aM ((by rw [hg]; exact Nat.ne_of_gt (bL (g := b7) (o := .cells #[.int .i64 a2_0, .int .i64 a2_1] 23 (0, 0)) (by (with_reducible repeat (first | refine bN ?_ _ | refine bD ?_ | refine bA ?_ _)); exact a2.out)) : d0 ≠ b7)); have g3 := aM ((by rw [hg]; exact Nat.ne_of_lt (bL (g := b0) (o := .cells #[.int .i64 b2, .int .i64 a9] 23 (0, 0)) (by (with_reducible repeat (first | refine bN ?_ _ | refine bD ?_ | refine bA ?_ _)); exact a5.out)) : b0 ≠ d0)); have g4 := aM ((by rw [hg]; exact Nat.ne_of_gt (bL (g := b0) (o := .cells #[.int .i64 b2, .int .i64 a9] 23 (0, 0)) (by (with_reducible repeat (first | refine bN ?_ _ | refine bD ?_ | refine bA ?_ _)); exact a5.out)) : d0 ≠ b0)); have g5 := aM ((by rw [hg]; exact Nat.ne_of_lt (bL (g := b1) (o := .cells #[.int .i64 a8, .int .i64 a7] 23 (0, 0)) (by (with_reducible repeat (first | refine bN ?_ _ | refine bD ?_ | refine bA ?_ _)); exact a4.out)) : b1 ≠ d0)); have m3 := aM ((by rw [hg]; exact Nat.ne_of_gt (bL (g := b1) (o := .cells #[.int .i64 a8, .int .i64 a7] 23 (0, 0)) (by (with_reducible repeat (first | refine bN ?_ _ | refine bD ?_ | refine bA ?_ _)); exact a4.out)) : d0 ≠ b1)); have m4 := aM ((by rw [hg]; exact Nat.ne_of_lt (bL (g := b6) (o := .cells #[.int .i64 d4, .int .i64 d5] 23 (0, 0)) (by (with_reducible repeat (first | refine bN ?_ _ | refine bD ?_ | refine bA ?_ _)); exact d3.out)) : b6 ≠ d0)); have m5 := aM ((by rw [hg]; exact Nat.ne_of_gt (bL (g := b6) (o := .cells #[.int .i64 d4, .int .i64 d5] 23 (0, 0)) (by (with_reducible repeat (first | refine bN ?_ _ | refine bD ?_ | refine bA ?_ _)); exact d3.out)) : d0 ≠ b6)); clear b3; clear a0; clear a1; clear a2; clear a5; clear a4; clear d3; clear HB; have b3 := n0_; have a0 := n1_; have a1 := n2_; have a2 := n3_; have a5 := n4_; have a4 := n5_; have d3 := n6_; have HB := n7_; have g6 := n8_; have t9 := n9_; have o7 := d6; have j3 := d7; have j4 := d8; have j5 := d9; have j6 := f3; have j7 := f4; have j8 := f5; have j9 := g3; have l2 := g4; have l3 := g5; have l4 := m3; have l5 := m4; have l6 := m5; clear n0_ n1_ n2_ n3_ n4_ n5_ n6_ n7_ n8_ n9_ d6 d7 d8 d9 f3 f4 f5 g3 g4 g5 m3 m4 m5; clear hb hbox hg; have be_ := j4.out; have bf_ := j3.out; have bg_ := j6.out; have bh_ := j5.out; have bi_ := j8.out; have bj_ := j7.out; have O9 := l2.out; have P0 := j9.out; have P1 := l4.out; have P2 := l3.out; have P3 := l6.out; have P4 := l5.out; have D8 : w96.cell? ⟨d0, 0, none⟩ = some (.int .i64 0) := (blk_cell g6.out 0).trans rfl; have D9 : w96.cell? ⟨d0, 1, none⟩ = some (.int .i64 0) := (blk_cell g6.out 1).trans rfl; have E0 := blk_frozen g6.out 0; have E1 := blk_frozen g6.out 1; have E2 : w96.cell? ⟨b6, 0, none⟩ = some (.int .i64 d4) := (blk_cell d3.out 0).trans rfl; have E3 : w96.cell? ⟨b6, 1, none⟩ = some (.int .i64 d5) := (blk_cell d3.out 1).trans rfl; have E4 := blk_frozen d3.out 0; have E5 := blk_frozen d3.out 1; have P5 := g7.out; have P6 := f6.out; have P7 := g8.out; have P8 := f7.out; have P9 := g9.out; have R0 := f8.out; have R1 := e0.out; have R2 := e1.out; have E6 : w96.cell? ⟨b0, 0, none⟩ = some (.int .i64 b2) := (blk_cell a5.out 0).trans rfl; have E7 : w96.cell? ⟨b0, 1, none⟩ = some (.int .i64 a9) := (blk_cell a5.out 1).trans rfl; have E8 := blk_frozen a5.out 0; have E9 := blk_frozen a5.out 1; have R3 := h2.out; have R4 := g0.out; have R5 := h3.out; have R6 := g1.out; have R7 := h4.out; have R8 := g2.out; have F0 : w96.cell? ⟨b1, 0, none⟩ = some (.int .i64 a8) := (blk_cell a4.out 0).trans rfl; have F1 : w96.cell? ⟨b1, 1, none⟩ = some (.int .i64 a7) := (blk_cell a4.out 1).trans rfl; have F2 := blk_frozen a4.out 0; have F3 := blk_frozen a4.out 1))
        go_ret
        exact ⟨by first | rfl | (simp [errW_none, errW_some] <;> rfl) | (simp [*, errW_none, errW_some] <;> rfl), by repeat (first | (with_reducible first | exact HB.out | apply wA | apply wN | apply wD | refine wS ?_ c4.out | refine wS ?_ c8.out | refine wS ?_ c9.out | refine wS ?_ d1.out | refine wS ?_ d2.out | refine wS ?_ f9.out | refine wS ?_ o7.out) | exact HB.out)⟩
       ·rw [if_neg c86] at H
        have c86b0 : (d4 == b2 && (d5 == a9)) = false := by simpa using c86
        (try (have c86b1 : decide (d4 = b2 && (d5 == a9)) = false := by simpa using c86))
        (try (have c86b2 : (d4 == b2 && (d5 == a9)) = false := by simpa using c86))
        (try (have c86b3 : ¬ (d4 = b2 && (d5 == a9)) := by simpa using c86))
        clear c86
        obtain rfl := Option.some.inj H
        go_wp2_with (first | ((with_reducible refine gC (f := 14) rfl ?_); refine gL (some 105) rfl rfl Tryd.func14 (by kernel_rfl) rfl #[.slice (some b9) a3.length h6] rfl (by (try simp only [List.map_toArray, List.map_cons, List.map_nil]); first | done | rfl | (simp only [List.length_drop, List.length_take]; rfl)) ?_; (with_reducible refine (impl_RGMax.calls _ _ a3 d4 d5 true _ ?side1 ?side2 A82.out).mono ?_); (case side1 => repeat (first | exact (Kd.R_reads' b3.out).2.2 | (with_reducible refine Kd.C_alloc ?_ _) | (with_reducible refine Kd.C_drewN ?_ _) | (with_reducible refine Kd.C_drew ?_))); (case side2 => exact (Kd.R_reads' b3.out).2.1); rintro e bs_ ⟨rfl, hb⟩; refine ⟨_, rfl, ?_⟩; have n0_ := aM (Kd.R_below (by (with_reducible repeat (first | apply Kd.R_alloc | apply Kd.R_drewN | apply Kd.R_drew)); exact b3.out) hb); have n1_ := aM (bB (g := b4) (o := .cells #[.int .i64 a0_0, .int .i64 a0_1] 23 (0, 0)) (by (with_reducible repeat (first | refine bN ?_ _ | refine bD ?_ | refine bA ?_ _)); exact a0.out) hb); have n2_ := aM (bB (g := b5) (o := .cells #[.int .i64 a1_0, .int .i64 a1_1] 23 (0, 0)) (by (with_reducible repeat (first | refine bN ?_ _ | refine bD ?_ | refine bA ?_ _)); exact a1.out) hb); have n3_ := aM (bB (g := b7) (o := .cells #[.int .i64 a2_0, .int .i64 a2_1] 23 (0, 0)) (by (with_reducible repeat (first | refine bN ?_ _ | refine bD ?_ | refine bA ?_ _)); exact a2.out) hb); have n4_ := aM (bB (g := b0) (o := .cells #[.int .i64 b2, .int .i64 a9] 23 (0, 0)) (by (with_reducible repeat (first | refine bN ?_ _ | refine bD ?_ | refine bA ?_ _)); exact a5.out) hb); have n5_ := aM (bB (g := b1) (o := .cells #[.int .i64 a8, .int .i64 a7] 23 (0, 0)) (by (with_reducible repeat (first | refine bN ?_ _ | refine bD ?_ | refine bA ?_ _)); exact a4.out) hb); have n6_ := aM (wP (by repeat (first | (with_reducible first | exact HB.out | apply wA | apply wN | apply wD | refine wS ?_ c4.out | refine wS ?_ c8.out | refine wS ?_ c9.out | refine wS ?_ d1.out | refine wS ?_ d2.out) | exact HB.out)) hb); clear b3; clear a0; clear a1; clear a2; clear a5; clear a4; clear HB; have b3 := n0_; have a0 := n1_; have a1 := n2_; have a2 := n3_; have a5 := n4_; have a4 := n5_; have HB := n6_; clear n0_ n1_ n2_ n3_ n4_ n5_ n6_; (try clear hb); (try clear hb2); (try clear hk); (try clear hi)) | ((with_reducible refine gate_dst (N := 14) rfl ?_); refine box_event ?hg (N := 14) ?hd (cs := #[.int .i64 0, .int .i64 0]) (t := 23) ?hr ?_; (case hd => rfl); (case hg => rfl); (case hr => first | (go_simp; done) | (go_simp; rfl)); intro b6 hg B8 hbox hb; have n0_ := aM (Kd.R_below (Kd.R_elderB (by (with_reducible repeat (first | apply Kd.R_alloc | apply Kd.R_drewN | apply Kd.R_drew)); exact b3.out) b6 (Nat.le_of_eq hg.symm)) hb); have n1_ := aM (bB (g := b4) (o := .cells #[.int .i64 a0_0, .int .i64 a0_1] 23 (0, 0)) (by (with_reducible repeat (first | refine bN ?_ _ | refine bD ?_ | refine bA ?_ _)); exact a0.out) hb); have n2_ := aM (bB (g := b5) (o := .cells #[.int .i64 a1_0, .int .i64 a1_1] 23 (0, 0)) (by (with_reducible repeat (first | refine bN ?_ _ | refine bD ?_ | refine bA ?_ _)); exact a1.out) hb); have n3_ := aM (bB (g := b7) (o := .cells #[.int .i64 a2_0, .int .i64 a2_1] 23 (0, 0)) (by (with_reducible repeat (first | refine bN ?_ _ | refine bD ?_ | refine bA ?_ _)); exact a2.out) hb); have n4_ := aM (bB (g := b0) (o := .cells #[.int .i64 b2, .int .i64 a9] 23 (0, 0)) (by (with_reducible repeat (first | refine bN ?_ _ | refine bD ?_ | refine bA ?_ _)); exact a5.out) hb); have n5_ := aM (bB (g := b1) (o := .cells #[.int .i64 a8, .int .i64 a7] 23 (0, 0)) (by (with_reducible repeat (first | refine bN ?_ _ | refine bD ?_ | refine bA ?_ _)); exact a4.out) hb); have n6_ := aM (wP (by repeat (first | (with_reducible first | exact HB.out | apply wA | apply wN | apply wD | refine wS ?_ c4.out | refine wS ?_ c8.out | refine wS ?_ c9.out | refine wS ?_ d1.out | refine wS ?_ d2.out) | exact HB.out)) hb); have n7_ := aM (hbox); have n8_ := aM ((by rw [hg]; exact (below_size (by repeat (first | (with_reducible first | exact HB.out | apply wA | apply wN | apply wD | refine wS ?_ c4.out | refine wS ?_ c8.out | refine wS ?_ c9.out | refine wS ?_ d1.out | refine wS ?_ d2.out) | exact HB.out))) : w.heap.size ≤ b6)); have n9_ := aM ((by rw [hg]; exact (below_size (by repeat (first | (with_reducible first | exact HB.out | apply wA | apply wN | apply wD | refine wS ?_ c4.out | refine wS ?_ c8.out | refine wS ?_ c9.out | refine wS ?_ d1.out | refine wS ?_ d2.out) | exact HB.out))) : w.heap.size ≤ b6)); have d6 := aM ((by rw [hg]; exact Nat.ne_of_lt (bL (g := b4) (o := .cells #[.int .i64 a0_0, .int .i64 a0_1] 23 (0, 0)) (by (with_reducible repeat (first | refine bN ?_ _ | refine bD ?_ | refine bA ?_ _)); exact a0.out)) : b4 ≠ b6)); have d7 := aM ((by rw [hg]; exact Nat.ne_of_gt (bL (g := b4) (o := .cells #[.int .i64 a0_0, .int .i64 a0_1] 23 (0, 0)) (by (with_reducible repeat (first | refine bN ?_ _ | refine bD ?_ | refine bA ?_ _)); exact a0.out)) : b6 ≠ b4)); have d8 := aM ((by rw [hg]; exact Nat.ne_of_lt (bL (g := b5) (o := .cells #[.int .i64 a1_0, .int .i64 a1_1] 23 (0, 0)) (by (with_reducible repeat (first | refine bN ?_ _ | refine bD ?_ | refine bA ?_ _)); exact a1.out)) : b5 ≠ b6)); have d9 := aM ((by rw [hg]; exact Nat.ne_of_gt (bL (g := b5) (o := .cells #[.int .i64 a1_0, .int .i64 a1_1] 23 (0, 0)) (by (with_reducible repeat (first | refine bN ?_ _ | refine bD ?_ | refine bA ?_ _)); exact a1.out)) : b6 ≠ b5)); have f3 := aM ((by rw [hg]; exact Nat.ne_of_lt (bL (g := b7) (o := .cells #[.int .i64 a2_0, .int .i64 a2_1] 23 (0, 0)) (by (with_reducible repeat (first | refine bN ?_ _ | refine bD ?_ | refine bA ?_ _)); exact a2.out)) : b7 ≠ b6)); have f4 := aM ((by rw [hg]; exact Nat.ne_of_gt (bL (g := b7) (o := .cells #[.int .i64 a2_0, .int .i64 a2_1] 23 (0, 0)) (by (with_reducible repeat (first | refine bN ?_ _ | refine bD ?_ | refine bA ?_ _)); exact a2.out)) : b6 ≠ b7)); have f5 := aM ((by rw [hg]; exact Nat.ne_of_lt (bL (g := b0) (o := .cells #[.int .i64 b2, .int .i64 a9] 23 (0, 0)) (by (with_reducible repeat (first | refine bN ?_ _ | refine bD ?_ | refine bA ?_ _)); exact a5.out)) : b0 ≠ b6)); have g3 := aM ((by rw [hg]; exact Nat.ne_of_gt (bL (g := b0) (o := .cells #[.int .i64 b2, .int .i64 a9] 23 (0, 0)) (by (with_reducible repeat (first | refine bN ?_ _ | refine bD ?_ | refine bA ?_ _)); exact a5.out)) : b6 ≠ b0)); have g4 := aM ((by rw [hg]; exact Nat.ne_of_lt (bL (g := b1) (o := .cells #[.int .i64 a8, .int .i64 a7] 23 (0, 0)) (by (with_reducible repeat (first | refine bN ?_ _ | refine bD ?_ | refine bA ?_ _)); exact a4.out)) : b1 ≠ b6)); have g5 := aM ((by rw [hg]; exact Nat.ne_of_gt (bL (g := b1) (o := .cells #[.int .i64 a8, .int .i64 a7] 23 (0, 0)) (by (with_reducible repeat (first | refine bN ?_ _ | refine bD ?_ | refine bA ?_ _)); exact a4.out)) : b6 ≠ b1)); clear b3; clear a0; clear a1; clear a2; clear a5; clear a4; clear HB; have b3 := n0_; have a0 := n1_; have a1 := n2_; have a2 := n3_; have a5 := n4_; have a4 := n5_; have HB := n6_; have d3 := n7_; have t8 := n8_; have f9 := n9_; have e2 := d6; have h7 := d7; have e3 := d8; have h8 := d9; have e4 := f3; have h9 := f4; have e5 := f5; have j0 := g3; have e6 := g4; have j1 := g5; clear n0_ n1_ n2_ n3_ n4_ n5_ n6_ n7_ n8_ n9_ d6 d7 d8 d9 f3 f4 f5 g3 g4 g5; clear hb hbox hg; have R9 := h7.out; have T0 := e2.out; have T1 := h8.out; have T2 := e3.out; have T3 := h9.out; have T4 := e4.out; have T5 := j0.out; have T6 := e5.out; have T7 := j1.out; have T8 := e6.out; have F4 : B8.cell? ⟨b6, 0, none⟩ = some (.int .i64 0) := (blk_cell d3.out 0).trans rfl; have F5 : B8.cell? ⟨b6, 1, none⟩ = some (.int .i64 0) := (blk_cell d3.out 1).trans rfl; have F6 := blk_frozen d3.out 0; have F7 := blk_frozen d3.out 1) | ((with_reducible refine gC (f := 15) rfl ?_); refine gL (some 110) rfl rfl Tryd.func15 (by kernel_rfl) rfl #[.slice (some b9) a3.length h6] rfl (by (try simp only [List.map_toArray, List.map_cons, List.map_nil]); first | done | rfl | (simp only [List.length_drop, List.length_take]; rfl)) ?_; (with_reducible refine (impl_RGMin.calls _ _ a3 q3 q4 true _ ?side1 ?side2 A83.out).mono ?_); (case side1 => refine (Kd.R_reads' (e := 23) (base := w.heap.size) (ok := fun k_ => ((k_ ≠ b4 ∧ (k_ ≠ b5 ∧ (k_ ≠ b7 ∧ (k_ ≠ b0 ∧ k_ ≠ b1)))) ∧ k_ ≠ b6)) (n := a3.length) (c := h6) ?_).2.2; exact (by (with_reducible repeat (first | apply Kd.R_alloc | apply Kd.R_drewN | apply Kd.R_drew)); exact (Kd.R_mono (Kd.R_far (p := ⟨b6, 1, none⟩) (Kd.R_far (p := ⟨b6, 0, none⟩) (Kd.R_mono b3.out (fun k_ hk => (⟨hk, hk.2⟩ : _ ∧ k_ ≠ b6))) (fun _ hk => hk.2) (.int .i64 d4)) (fun _ hk => hk.2) (.int .i64 d5)) (fun _ h_ => h_.1)))); (case side2 => exact (Kd.R_reads' b3.out).2.1); rintro e bt_ ⟨rfl, hb⟩; refine ⟨_, rfl, ?_⟩; have n0_ := aM (Kd.R_below (by (with_reducible repeat (first | apply Kd.R_alloc | apply Kd.R_drewN | apply Kd.R_drew)); exact (Kd.R_mono (Kd.R_far (p := ⟨b6, 1, none⟩) (Kd.R_far (p := ⟨b6, 0, none⟩) (Kd.R_mono b3.out (fun k_ hk => (⟨hk, hk.2⟩ : _ ∧ k_ ≠ b6))) (fun _ hk => hk.2) (.int .i64 d4)) (fun _ hk => hk.2) (.int .i64 d5)) (fun _ h_ => h_.1))) hb); have n1_ := aM (bB (g := b4) (o := .cells #[.int .i64 a0_0, .int .i64 a0_1] 23 (0, 0)) (by (with_reducible repeat (first | refine bN ?_ _ | refine bD ?_ | refine bA ?_ _)); refine blk_far ?_ e2.out _; (with_reducible repeat (first | refine bN ?_ _ | refine bD ?_ | refine bA ?_ _)); refine blk_far ?_ e2.out _; (with_reducible repeat (first | refine bN ?_ _ | refine bD ?_ | refine bA ?_ _)); exact a0.out) hb); have n2_ := aM (bB (g := b5) (o := .cells #[.int .i64 a1_0, .int .i64 a1_1] 23 (0, 0)) (by (with_reducible repeat (first | refine bN ?_ _ | refine bD ?_ | refine bA ?_ _)); refine blk_far ?_ e3.out _; (with_reducible repeat (first | refine bN ?_ _ | refine bD ?_ | refine bA ?_ _)); refine blk_far ?_ e3.out _; (with_reducible repeat (first | refine bN ?_ _ | refine bD ?_ | refine bA ?_ _)); exact a1.out) hb); have n3_ := aM (bB (g := b7) (o := .cells #[.int .i64 a2_0, .int .i64 a2_1] 23 (0, 0)) (by (with_reducible repeat (first | refine bN ?_ _ | refine bD ?_ | refine bA ?_ _)); refine blk_far ?_ e4.out _; (with_reducible repeat (first | refine bN ?_ _ | refine bD ?_ | refine bA ?_ _)); refine blk_far ?_ e4.out _; (with_reducible repeat (first | refine bN ?_ _ | refine bD ?_ | refine bA ?_ _)); exact a2.out) hb); have n4_ := aM (bB (g := b0) (o := .cells #[.int .i64 b2, .int .i64 a9] 23 (0, 0)) (by (with_reducible repeat (first | refine bN ?_ _ | refine bD ?_ | refine bA ?_ _)); refine blk_far ?_ e5.out _; (with_reducible repeat (first | refine bN ?_ _ | refine bD ?_ | refine bA ?_ _)); refine blk_far ?_ e5.out _; (with_reducible repeat (first | refine bN ?_ _ | refine bD ?_ | refine bA ?_ _)); exact a5.out) hb); have n5_ := aM (bB (g := b1) (o := .cells #[.int .i64 a8, .int .i64 a7] 23 (0, 0)) (by (with_reducible repeat (first | refine bN ?_ _ | refine bD ?_ | refine bA ?_ _)); refine blk_far ?_ e6.out _; (with_reducible repeat (first | refine bN ?_ _ | refine bD ?_ | refine bA ?_ _)); refine blk_far ?_ e6.out _; (with_reducible repeat (first | refine bN ?_ _ | refine bD ?_ | refine bA ?_ _)); exact a4.out) hb); have n6_ := aM (bB (g := b6) (o := .cells #[.int .i64 d4, .int .i64 d5] 23 (0, 0)) (by (with_reducible repeat (first | refine bN ?_ _ | refine bD ?_ | refine bA ?_ _)); refine blk_put (cs := #[.int .i64 d4, .int .i64 0]) ?_ 1 _ rfl; (with_reducible repeat (first | refine bN ?_ _ | refine bD ?_ | refine bA ?_ _)); refine blk_put (cs := #[.int .i64 0, .int .i64 0]) ?_ 0 _ rfl; (with_reducible repeat (first | refine bN ?_ _ | refine bD ?_ | refine bA ?_ _)); exact d3.out) hb); have n7_ := aM (wP (by repeat (first | (with_reducible first | exact HB.out | apply wA | apply wN | apply wD | refine wS ?_ c4.out | refine wS ?_ c8.out | refine wS ?_ c9.out | refine wS ?_ d1.out | refine wS ?_ d2.out | refine wS ?_ f9.out) | exact HB.out)) hb); clear b3; clear a0; clear a1; clear a2; clear a5; clear a4; clear d3; clear HB; have b3 := n0_; have a0 := n1_; have a1 := n2_; have a2 := n3_; have a5 := n4_; have a4 := n5_; have d3 := n6_; have HB := n7_; clear n0_ n1_ n2_ n3_ n4_ n5_ n6_ n7_; (try clear hb); (try clear hb2); (try clear hk); (try clear hi)) | ((with_reducible refine gate_dst (N := 16) rfl ?_); refine box_event ?hg (N := 16) ?hd (cs := #[.int .i64 0, .int .i64 0]) (t := 23) ?hr ?_; (case hd => rfl); (case hg => rfl); (case hr => first | (go_simp; done) | (go_simp; rfl)); intro d0 hg r2 hbox hb; have n0_ := aM (Kd.R_below (Kd.R_elderB (by (with_reducible repeat (first | apply Kd.R_alloc | apply Kd.R_drewN | apply Kd.R_drew)); exact b3.out) d0 (Nat.le_of_eq hg.symm)) hb); have n1_ := aM (bB (g := b4) (o := .cells #[.int .i64 a0_0, .int .i64 a0_1] 23 (0, 0)) (by (with_reducible repeat (first | refine bN ?_ _ | refine bD ?_ | refine bA ?_ _)); exact a0.out) hb); have n2_ := aM (bB (g := b5) (o := .cells #[.int .i64 a1_0, .int .i64 a1_1] 23 (0, 0)) (by (with_reducible repeat (first | refine bN ?_ _ | refine bD ?_ | refine bA ?_ _)); exact a1.out) hb); have n3_ := aM (bB (g := b7) (o := .cells #[.int .i64 a2_0, .int .i64 a2_1] 23 (0, 0)) (by (with_reducible repeat (first | refine bN ?_ _ | refine bD ?_ | refine bA ?_ _)); exact a2.out) hb); have n4_ := aM (bB (g := b0) (o := .cells #[.int .i64 b2, .int .i64 a9] 23 (0, 0)) (by (with_reducible repeat (first | refine bN ?_ _ | refine bD ?_ | refine bA ?_ _)); exact a5.out) hb); have n5_ := aM (bB (g := b1) (o := .cells #[.int .i64 a8, .int .i64 a7] 23 (0, 0)) (by (with_reducible repeat (first | refine bN ?_ _ | refine bD ?_ | refine bA ?_ _)); exact a4.out) hb); have n6_ := aM (bB (g := b6) (o := .cells #[.int .i64 d4, .int .i64 d5] 23 (0, 0)) (by (with_reducible repeat (first | refine bN ?_ _ | refine bD ?_ | refine bA ?_ _)); exact d3.out) hb); have n7_ := aM (wP (by repeat (first | (with_reducible first | exact HB.out | apply wA | apply wN | apply wD | refine wS ?_ c4.out | refine wS ?_ c8.out | refine wS ?_ c9.out | refine wS ?_ d1.out | refine wS ?_ d2.out | refine wS ?_ f9.out) | exact HB.out)) hb); have n8_ := aM (hbox); have n9_ := aM ((by rw [hg]; exact (below_size (by repeat (first | (with_reducible first | exact HB.out | apply wA | apply wN | apply wD | refine wS ?_ c4.out | refine wS ?_ c8.out | refine wS ?_ c9.out | refine wS ?_ d1.out | refine wS ?_ d2.out | refine wS ?_ f9.out) | exact HB.out))) : w.heap.size ≤ d0)); have d6 := aM ((by rw [hg]; exact (below_size (by repeat (first | (with_reducible first | exact HB.out | apply wA | apply wN | apply wD | refine wS ?_ c4.out | refine wS ?_ c8.out | refine wS ?_ c9.out | refine wS ?_ d1.out | refine wS ?_ d2.out | refine wS ?_ f9.out) | exact HB.out))) : w.heap.size ≤ d0)); have d7 := aM ((by rw [hg]; exact Nat.ne_of_lt (bL (g := b4) (o := .cells #[.int .i64 a0_0, .int .i64 a0_1] 23 (0, 0)) (by (with_reducible repeat (first | refine bN ?_ _ | refine bD ?_ | refine bA ?_ _)); exact a0.out)) : b4 ≠ d0)); have d8 := aM ((by rw [hg]; exact Nat.ne_of_gt (bL (g := b4) (o := .cells #[.int .i64 a0_0, .int .i64 a0_1] 23 (0, 0)) (by (with_reducible repeat (first | refine bN ?_ _ | refine bD ?_ | refine bA ?_ _)); exact a0.out)) : d0 ≠ b4)); have d9 := aM ((by rw [hg]; exact Nat.ne_of_lt (bL (g := b5) (o := .cells #[.int .i64 a1_0, .int .i64 a1_1] 23 (0, 0)) (by (with_reducible repeat (first | refine bN ?_ _ | refine bD ?_ | refine bA ?_ _)); exact a1.out)) : b5 ≠ d0)); have f3 := aM ((by rw [hg]; exact Nat.ne_of_gt (bL (g := b5) (o := .cells #[.int .i64 a1_0, .int .i64 a1_1] 23 (0, 0)) (by (with_reducible repeat (first | refine bN ?_ _ | refine bD ?_ | refine bA ?_ _)); exact a1.out)) : d0 ≠ b5)); have f4 := aM ((by rw [hg]; exact Nat.ne_of_lt (bL (g := b7) (o := .cells #[.int .i64 a2_0, .int .i64 a2_1] 23 (0, 0)) (by (with_reducible repeat (first | refine bN ?_ _ | refine bD ?_ | refine bA ?_ _)); exact a2.out)) : b7 ≠ d0)); have f5 := aM ((by rw [hg]; exact Nat.ne_of_gt (bL (g := b7) (o := .cells #[.int .i64 a2_0, .int .i64 a2_1] 23 (0, 0)) (by (with_reducible repeat (first | refine bN ?_ _ | refine bD ?_ | refine bA ?_ _)); exact a2.out)) : d0 ≠ b7)); have g3 := aM ((by rw [hg]; exact Nat.ne_of_lt (bL (g := b0) (o := .cells #[.int .i64 b2, .int .i64 a9] 23 (0, 0)) (by (with_reducible repeat (first | refine bN ?_ _ | refine bD ?_ | refine bA ?_ _)); exact a5.out)) : b0 ≠ d0)); have g4 := aM ((by rw [hg]; exact Nat.ne_of_gt (bL (g := b0) (o := .cells #[.int .i64 b2, .int .i64 a9] 23 (0, 0)) (by (with_reducible repeat (first | refine bN ?_ _ | refine bD ?_ | refine bA ?_ _)); exact a5.out)) : d0 ≠ b0)); have g5 := aM ((by rw [hg]; exact Nat.ne_of_lt (bL (g := b1) (o := .cells #[.int .i64 a8, .int .i64 a7] 23 (0, 0)) (by (with_reducible repeat (first | refine bN ?_ _ | refine bD ?_ | refine bA ?_ _)); exact a4.out)) : b1 ≠ d0)); have m3 := aM ((by rw [hg]; exact Nat.ne_of_gt (bL (g := b1) (o := .cells #[.int .i64 a8, .int .i64 a7] 23 (0, 0)) (by (with_reducible repeat (first | refine bN ?_ _ | refine bD ?_ | refine bA ?_ _)); exact a4.out)) : d0 ≠ b1)); have m4 := aM ((by rw [hg]; exact Nat.ne_of_lt (bL (g := b6) (o := .cells #[.int .i64 d4, .int .i64 d5] 23 (0, 0)) (by (with_reducible repeat (first | refine bN ?_ _ | refine bD ?_ | refine bA ?_ _)); exact d3.out)) : b6 ≠ d0)); have m5 := aM ((by rw [hg]; exact Nat.ne_of_gt (bL (g := b6) (o := .cells #[.int .i64 d4, .int .i64 d5] 23 (0, 0)) (by (with_reducible repeat (first | refine bN ?_ _ | refine bD ?_ | refine bA ?_ _)); exact d3.out)) : d0 ≠ b6)); clear b3; clear a0; clear a1; clear a2; clear a5; clear a4; clear d3; clear HB; have b3 := n0_; have a0 := n1_; have a1 := n2_; have a2 := n3_; have a5 := n4_; have a4 := n5_; have d3 := n6_; have HB := n7_; have g6 := n8_; have t9 := n9_; have o7 := d6; have j3 := d7; have j4 := d8; have j5 := d9; have j6 := f3; have j7 := f4; have j8 := f5; have j9 := g3; have l2 := g4; have l3 := g5; have l4 := m3; have l5 := m4; have l6 := m5; clear n0_ n1_ n2_ n3_ n4_ n5_ n6_ n7_ n8_ n9_ d6 d7 d8 d9 f3 f4 f5 g3 g4 g5 m3 m4 m5; clear hb hbox hg; have T9 := j4.out; have U0 := j3.out; have U1 := j6.out; have U2 := j5.out; have U3 := j8.out; have U4 := j7.out; have U5 := l2.out; have U6 := j9.out; have U7 := l4.out; have U8 := l3.out; have U9 := l6.out; have V0 := l5.out; have F8 : r2.cell? ⟨d0, 0, none⟩ = some (.int .i64 0) := (blk_cell g6.out 0).trans rfl; have F9 : r2.cell? ⟨d0, 1, none⟩ = some (.int .i64 0) := (blk_cell g6.out 1).trans rfl; have G0 := blk_frozen g6.out 0; have G1 := blk_frozen g6.out 1; have G2 : r2.cell? ⟨b6, 0, none⟩ = some (.int .i64 d4) := (blk_cell d3.out 0).trans rfl; have G3 : r2.cell? ⟨b6, 1, none⟩ = some (.int .i64 d5) := (blk_cell d3.out 1).trans rfl; have G4 := blk_frozen d3.out 0; have G5 := blk_frozen d3.out 1; have V1 := g7.out; have V2 := f6.out; have V3 := g8.out; have V4 := f7.out; have V5 := g9.out; have V6 := f8.out; have V7 := e0.out; have V8 := e1.out; have G6 : r2.cell? ⟨b0, 0, none⟩ = some (.int .i64 b2) := (blk_cell a5.out 0).trans rfl; have G7 : r2.cell? ⟨b0, 1, none⟩ = some (.int .i64 a9) := (blk_cell a5.out 1).trans rfl; have G8 := blk_frozen a5.out 0; have G9 := blk_frozen a5.out 1))
        go_ret
        exact ⟨by first | rfl | (simp [errW_none, errW_some] <;> rfl) | (simp [*, errW_none, errW_some] <;> rfl), by repeat (first | (with_reducible first | exact HB.out | apply wA | apply wN | apply wD | refine wS ?_ c4.out | refine wS ?_ c8.out | refine wS ?_ c9.out | refine wS ?_ d1.out | refine wS ?_ d2.out | refine wS ?_ f9.out | refine wS ?_ o7.out) | exact HB.out)⟩
      ·replace c85 := Bool.eq_false_iff.mpr c85
       subst c85
       have H1 : (some false) = some r := by rw [if_neg (show ¬ (false = true) by decide)] at H; exact H
       clear H
       have H := H1
       clear H1
       obtain rfl := Option.some.inj H
       go_wp2_with (first | ((with_reducible refine gC (f := 14) rfl ?_); refine gL (some 105) rfl rfl Tryd.func14 (by kernel_rfl) rfl #[.slice (some b9) a3.length h6] rfl (by (try simp only [List.map_toArray, List.map_cons, List.map_nil]); first | done | rfl | (simp only [List.length_drop, List.length_take]; rfl)) ?_; (with_reducible refine (impl_RGMax.calls _ _ a3 d4 d5 true _ ?side1 ?side2 A82.out).mono ?_); (case side1 => repeat (first | exact (Kd.R_reads' b3.out).2.2 | (with_reducible refine Kd.C_alloc ?_ _) | (with_reducible refine Kd.C_drewN ?_ _) | (with_reducible refine Kd.C_drew ?_))); (case side2 => exact (Kd.R_reads' b3.out).2.1); rintro e bv_ ⟨rfl, hb⟩; refine ⟨_, rfl, ?_⟩; have n0_ := aM (Kd.R_below (by (with_reducible repeat (first | apply Kd.R_alloc | apply Kd.R_drewN | apply Kd.R_drew)); exact b3.out) hb); have n1_ := aM (bB (g := b4) (o := .cells #[.int .i64 a0_0, .int .i64 a0_1] 23 (0, 0)) (by (with_reducible repeat (first | refine bN ?_ _ | refine bD ?_ | refine bA ?_ _)); exact a0.out) hb); have n2_ := aM (bB (g := b5) (o := .cells #[.int .i64 a1_0, .int .i64 a1_1] 23 (0, 0)) (by (with_reducible repeat (first | refine bN ?_ _ | refine bD ?_ | refine bA ?_ _)); exact a1.out) hb); have n3_ := aM (bB (g := b7) (o := .cells #[.int .i64 a2_0, .int .i64 a2_1] 23 (0, 0)) (by (with_reducible repeat (first | refine bN ?_ _ | refine bD ?_ | refine bA ?_ _)); exact a2.out) hb); have n4_ := aM (bB (g := b0) (o := .cells #[.int .i64 b2, .int .i64 a9] 23 (0, 0)) (by (with_reducible repeat (first | refine bN ?_ _ | refine bD ?_ | refine bA ?_ _)); exact a5.out) hb); have n5_ := aM (bB (g := b1) (o := .cells #[.int .i64 a8, .int .i64 a7] 23 (0, 0)) (by (with_reducible repeat (first | refine bN ?_ _ | refine bD ?_ | refine bA ?_ _)); exact a4.out) hb); have n6_ := aM (wP (by repeat (first | (with_reducible first | exact HB.out | apply wA | apply wN | apply wD | refine wS ?_ c4.out | refine wS ?_ c8.out | refine wS ?_ c9.out | refine wS ?_ d1.out | refine wS ?_ d2.out) | exact HB.out)) hb); clear b3; clear a0; clear a1; clear a2; clear a5; clear a4; clear HB; have b3 := n0_; have a0 := n1_; have a1 := n2_; have a2 := n3_; have a5 := n4_; have a4 := n5_; have HB := n6_; clear n0_ n1_ n2_ n3_ n4_ n5_ n6_; (try clear hb); (try clear hb2); (try clear hk); (try clear hi)) | ((with_reducible refine gate_dst (N := 14) rfl ?_); refine box_event ?hg (N := 14) ?hd (cs := #[.int .i64 0, .int .i64 0]) (t := 23) ?hr ?_; (case hd => rfl); (case hg => rfl); (case hr => first | (go_simp; done) | (go_simp; rfl)); intro b6 hg B9 hbox hb; have n0_ := aM (Kd.R_below (Kd.R_elderB (by (with_reducible repeat (first | apply Kd.R_alloc | apply Kd.R_drewN | apply Kd.R_drew)); exact b3.out) b6 (Nat.le_of_eq hg.symm)) hb); have n1_ := aM (bB (g := b4) (o := .cells #[.int .i64 a0_0, .int .i64 a0_1] 23 (0, 0)) (by (with_reducible repeat (first | refine bN ?_ _ | refine bD ?_ | refine bA ?_ _)); exact a0.out) hb); have n2_ := aM (bB (g := b5) (o := .cells #[.int .i64 a1_0, .int .i64 a1_1] 23 (0, 0)) (by (with_reducible repeat (first | refine bN ?_ _ | refine bD ?_ | refine bA ?_ _)); exact a1.out) hb); have n3_ := aM (bB (g := b7) (o := .cells #[.int .i64 a2_0, .int .i64 a2_1] 23 (0, 0)) (by (with_reducible repeat (first | refine bN ?_ _ | refine bD ?_ | refine bA ?_ _)); exact a2.out) hb); have n4_ := aM (bB (g := b0) (o := .cells #[.int .i64 b2, .int .i64 a9] 23 (0, 0)) (by (with_reducible repeat (first | refine bN ?_ _ | refine bD ?_ | refine bA ?_ _)); exact a5.out) hb); have n5_ := aM (bB (g := b1) (o := .cells #[.int .i64 a8, .int .i64 a7] 23 (0, 0)) (by (with_reducible repeat (first | refine bN ?_ _ | refine bD ?_ | refine bA ?_ _)); exact a4.out) hb); have n6_ := aM (wP (by repeat (first | (with_reducible first | exact HB.out | apply wA | apply wN | apply wD | refine wS ?_ c4.out | refine wS ?_ c8.out | refine wS ?_ c9.out | refine wS ?_ d1.out | refine wS ?_ d2.out) | exact HB.out)) hb); have n7_ := aM (hbox); have n8_ := aM ((by rw [hg]; exact (below_size (by repeat (first | (with_reducible first | exact HB.out | apply wA | apply wN | apply wD | refine wS ?_ c4.out | refine wS ?_ c8.out | refine wS ?_ c9.out | refine wS ?_ d1.out | refine wS ?_ d2.out) | exact HB.out))) : w.heap.size ≤ b6)); have n9_ := aM ((by rw [hg]; exact (below_size (by repeat (first | (with_reducible first | exact HB.out | apply wA | apply wN | apply wD | refine wS ?_ c4.out | refine wS ?_ c8.out | refine wS ?_ c9.out | refine wS ?_ d1.out | refine wS ?_ d2.out) | exact HB.out))) : w.heap.size ≤ b6)); have d6 := aM ((by rw [hg]; exact Nat.ne_of_lt (bL (g := b4) (o := .cells #[.int .i64 a0_0, .int .i64 a0_1] 23 (0, 0)) (by (with_reducible repeat (first | refine bN ?_ _ | refine bD ?_ | refine bA ?_ _)); exact a0.out)) : b4 ≠ b6)); have d7 := aM ((by rw [hg]; exact Nat.ne_of_gt (bL (g := b4) (o := .cells #[.int .i64 a0_0, .int .i64 a0_1] 23 (0, 0)) (by (with_reducible repeat (first | refine bN ?_ _ | refine bD ?_ | refine bA ?_ _)); exact a0.out)) : b6 ≠ b4)); have d8 := aM ((by rw [hg]; exact Nat.ne_of_lt (bL (g := b5) (o := .cells #[.int .i64 a1_0, .int .i64 a1_1] 23 (0, 0)) (by (with_reducible repeat (first | refine bN ?_ _ | refine bD ?_ | refine bA ?_ _)); exact a1.out)) : b5 ≠ b6)); have d9 := aM ((by rw [hg]; exact Nat.ne_of_gt (bL (g := b5) (o := .cells #[.int .i64 a1_0, .int .i64 a1_1] 23 (0, 0)) (by (with_reducible repeat (first | refine bN ?_ _ | refine bD ?_ | refine bA ?_ _)); exact a1.out)) : b6 ≠ b5)); have f3 := aM ((by rw [hg]; exact Nat.ne_of_lt (bL (g := b7) (o := .cells #[.int .i64 a2_0, .int .i64 a2_1] 23 (0, 0)) (by (with_reducible repeat (first | refine bN ?_ _ | refine bD ?_ | refine bA ?_ _)); exact a2.out)) : b7 ≠ b6)); have f4 := aM ((by rw [hg]; exact Nat.ne_of_gt (bL (g := b7) (o := .cells #[.int .i64 a2_0, .int .i64 a2_1] 23 (0, 0)) (by (with_reducible repeat (first | refine bN ?_ _ | refine bD ?_ | refine bA ?_ _)); exact a2.out)) : b6 ≠ b7)); have f5 := aM ((by rw [hg]; exact Nat.ne_of_lt (bL (g := b0) (o := .cells #[.int .i64 b2, .int .i64 a9] 23 (0, 0)) (by (with_reducible repeat (first | refine bN ?_ _ | refine bD ?_ | refine bA ?_ _)); exact a5.out)) : b0 ≠ b6)); have g3 := aM ((by rw [hg]; exact Nat.ne_of_gt (bL (g := b0) (o := .cells #[.int .i64 b2, .int .i64 a9] 23 (0, 0)) (by (with_reducible repeat (first | refine bN ?_ _ | refine bD ?_ | refine bA ?_ _)); exact a5.out)) : b6 ≠ b0)); have g4 := aM ((by rw [hg]; exact Nat.ne_of_lt (bL (g := b1) (o := .cells #[.int .i64 a8, .int .i64 a7] 23 (0, 0)) (by (with_reducible repeat (first | refine bN ?_ _ | refine bD ?_ | refine bA ?_ _)); exact a4.out)) : b1 ≠ b6)); have g5 := aM ((by rw [hg]; exact Nat.ne_of_gt (bL (g := b1) (o := .cells #[.int .i64 a8, .int .i64 a7] 23 (0, 0)) (by (with_reducible repeat (first | refine bN ?_ _ | refine bD ?_ | refine bA ?_ _)); exact a4.out)) : b6 ≠ b1)); clear b3; clear a0; clear a1; clear a2; clear a5; clear a4; clear HB; have b3 := n0_; have a0 := n1_; have a1 := n2_; have a2 := n3_; have a5 := n4_; have a4 := n5_; have HB := n6_; have d3 := n7_; have t8 := n8_; have f9 := n9_; have e2 := d6; have h7 := d7; have e3 := d8; have h8 := d9; have e4 := f3; have h9 := f4; have e5 := f5; have j0 := g3; have e6 := g4; have j1 := g5; clear n0_ n1_ n2_ n3_ n4_ n5_ n6_ n7_ n8_ n9_ d6 d7 d8 d9 f3 f4 f5 g3 g4 g5; clear hb hbox hg; have V9 := h7.out; have X0 := e2.out; have X1 := h8.out; have X2 := e3.out; have X3 := h9.out; have X4 := e4.out; have X5 := j0.out; have X6 := e5.out; have X7 := j1.out; have X8 := e6.out; have H0 : B9.cell? ⟨b6, 0, none⟩ = some (.int .i64 0) := (blk_cell d3.out 0).trans rfl; have H2 : B9.cell? ⟨b6, 1, none⟩ = some (.int .i64 0) := (blk_cell d3.out 1).trans rfl; have H3 := blk_frozen d3.out 0; have H4 := blk_frozen d3.out 1) | ((with_reducible refine gC (f := 15) rfl ?_); refine gL (some 110) rfl rfl Tryd.func15 (by kernel_rfl) rfl #[.slice (some b9) a3.length h6] rfl (by (try simp only [List.map_toArray, List.map_cons, List.map_nil]); first | done | rfl | (simp only [List.length_drop, List.length_take]; rfl)) ?_; (with_reducible refine (impl_RGMin.calls _ _ a3 q3 q4 false _ ?side1 ?side2 A83.out).mono ?_); (case side1 => refine (Kd.R_reads' (e := 23) (base := w.heap.size) (ok := fun k_ => ((k_ ≠ b4 ∧ (k_ ≠ b5 ∧ (k_ ≠ b7 ∧ (k_ ≠ b0 ∧ k_ ≠ b1)))) ∧ k_ ≠ b6)) (n := a3.length) (c := h6) ?_).2.2; exact (by (with_reducible repeat (first | apply Kd.R_alloc | apply Kd.R_drewN | apply Kd.R_drew)); exact (Kd.R_mono (Kd.R_far (p := ⟨b6, 1, none⟩) (Kd.R_far (p := ⟨b6, 0, none⟩) (Kd.R_mono b3.out (fun k_ hk => (⟨hk, hk.2⟩ : _ ∧ k_ ≠ b6))) (fun _ hk => hk.2) (.int .i64 d4)) (fun _ hk => hk.2) (.int .i64 d5)) (fun _ h_ => h_.1)))); (case side2 => exact (Kd.R_reads' b3.out).2.1); rintro e bx_ ⟨rfl, hb⟩; refine ⟨_, rfl, ?_⟩; have n0_ := aM (Kd.R_below (by (with_reducible repeat (first | apply Kd.R_alloc | apply Kd.R_drewN | apply Kd.R_drew)); exact (Kd.R_mono (Kd.R_far (p := ⟨b6, 1, none⟩) (Kd.R_far (p := ⟨b6, 0, none⟩) (Kd.R_mono b3.out (fun k_ hk => (⟨hk, hk.2⟩ : _ ∧ k_ ≠ b6))) (fun _ hk => hk.2) (.int .i64 d4)) (fun _ hk => hk.2) (.int .i64 d5)) (fun _ h_ => h_.1))) hb); have n1_ := aM (bB (g := b4) (o := .cells #[.int .i64 a0_0, .int .i64 a0_1] 23 (0, 0)) (by (with_reducible repeat (first | refine bN ?_ _ | refine bD ?_ | refine bA ?_ _)); refine blk_far ?_ e2.out _; (with_reducible repeat (first | refine bN ?_ _ | refine bD ?_ | refine bA ?_ _)); refine blk_far ?_ e2.out _; (with_reducible repeat (first | refine bN ?_ _ | refine bD ?_ | refine bA ?_ _)); exact a0.out) hb); have n2_ := aM (bB (g := b5) (o := .cells #[.int .i64 a1_0, .int .i64 a1_1] 23 (0, 0)) (by (with_reducible repeat (first | refine bN ?_ _ | refine bD ?_ | refine bA ?_ _)); refine blk_far ?_ e3.out _; (with_reducible repeat (first | refine bN ?_ _ | refine bD ?_ | refine bA ?_ _)); refine blk_far ?_ e3.out _; (with_reducible repeat (first | refine bN ?_ _ | refine bD ?_ | refine bA ?_ _)); exact a1.out) hb); have n3_ := aM (bB (g := b7) (o := .cells #[.int .i64 a2_0, .int .i64 a2_1] 23 (0, 0)) (by (with_reducible repeat (first | refine bN ?_ _ | refine bD ?_ | refine bA ?_ _)); refine blk_far ?_ e4.out _; (with_reducible repeat (first | refine bN ?_ _ | refine bD ?_ | refine bA ?_ _)); refine blk_far ?_ e4.out _; (with_reducible repeat (first | refine bN ?_ _ | refine bD ?_ | refine bA ?_ _)); exact a2.out) hb); have n4_ := aM (bB (g := b0) (o := .cells #[.int .i64 b2, .int .i64 a9] 23 (0, 0)) (by (with_reducible repeat (first | refine bN ?_ _ | refine bD ?_ | refine bA ?_ _)); refine blk_far ?_ e5.out _; (with_reducible repeat (first | refine bN ?_ _ | refine bD ?_ | refine bA ?_ _)); refine blk_far ?_ e5.out _; (with_reducible repeat (first | refine bN ?_ _ | refine bD ?_ | refine bA ?_ _)); exact a5.out) hb); have n5_ := aM (bB (g := b1) (o := .cells #[.int .i64 a8, .int .i64 a7] 23 (0, 0)) (by (with_reducible repeat (first | refine bN ?_ _ | refine bD ?_ | refine bA ?_ _)); refine blk_far ?_ e6.out _; (with_reducible repeat (first | refine bN ?_ _ | refine bD ?_ | refine bA ?_ _)); refine blk_far ?_ e6.out _; (with_reducible repeat (first | refine bN ?_ _ | refine bD ?_ | refine bA ?_ _)); exact a4.out) hb); have n6_ := aM (bB (g := b6) (o := .cells #[.int .i64 d4, .int .i64 d5] 23 (0, 0)) (by (with_reducible repeat (first | refine bN ?_ _ | refine bD ?_ | refine bA ?_ _)); refine blk_put (cs := #[.int .i64 d4, .int .i64 0]) ?_ 1 _ rfl; (with_reducible repeat (first | refine bN ?_ _ | refine bD ?_ | refine bA ?_ _)); refine blk_put (cs := #[.int .i64 0, .int .i64 0]) ?_ 0 _ rfl; (with_reducible repeat (first | refine bN ?_ _ | refine bD ?_ | refine bA ?_ _)); exact d3.out) hb); have n7_ := aM (wP (by repeat (first | (with_reducible first | exact HB.out | apply wA | apply wN | apply wD | refine wS ?_ c4.out | refine wS ?_ c8.out | refine wS ?_ c9.out | refine wS ?_ d1.out | refine wS ?_ d2.out | refine wS ?_ f9.out) | exact HB.out)) hb); clear b3; clear a0; clear a1; clear a2; clear a5; clear a4; clear d3; clear HB; have b3 := n0_; have a0 := n1_; have a1 := n2_; have a2 := n3_; have a5 := n4_; have a4 := n5_; have d3 := n6_; have HB := n7_; clear n0_ n1_ n2_ n3_ n4_ n5_ n6_ n7_; (try clear hb); (try clear hb2); (try clear hk); (try clear hi)) | ((with_reducible refine gate_dst (N := 16) rfl ?_); refine box_event ?hg (N := 16) ?hd (cs := #[.int .i64 0, .int .i64 0]) (t := 23) ?hr ?_; (case hd => rfl); (case hg => rfl); (case hr => first | (go_simp; done) | (go_simp; rfl)); intro d0 hg C0 hbox hb; have n0_ := aM (Kd.R_below (Kd.R_elderB (by (with_reducible repeat (first | apply Kd.R_alloc | apply Kd.R_drewN | apply Kd.R_drew)); exact b3.out) d0 (Nat.le_of_eq hg.symm)) hb); have n1_ := aM (bB (g := b4) (o := .cells #[.int .i64 a0_0, .int .i64 a0_1] 23 (0, 0)) (by (with_reducible repeat (first | refine bN ?_ _ | refine bD ?_ | refine bA ?_ _)); exact a0.out) hb); have n2_ := aM (bB (g := b5) (o := .cells #[.int .i64 a1_0, .int .i64 a1_1] 23 (0, 0)) (by (with_reducible repeat (first | refine bN ?_ _ | refine bD ?_ | refine bA ?_ _)); exact a1.out) hb); have n3_ := aM (bB (g := b7) (o := .cells #[.int .i64 a2_0, .int .i64 a2_1] 23 (0, 0)) (by (with_reducible repeat (first | refine bN ?_ _ | refine bD ?_ | refine bA ?_ _)); exact a2.out) hb); have n4_ := aM (bB (g := b0) (o := .cells #[.int .i64 b2, .int .i64 a9] 23 (0, 0)) (by (with_reducible repeat (first | refine bN ?_ _ | refine bD ?_ | refine bA ?_ _)); exact a5.out) hb); have n5_ := aM (bB (g := b1) (o := .cells #[.int .i64 a8, .int .i64 a7] 23 (0, 0)) (by (with_reducible repeat (first | refine bN ?_ _ | refine bD ?_ | refine bA ?_ _)); exact a4.out) hb); have n6_ := aM (bB (g := b6) (o := .cells #[.int .i64 d4, .int .i64 d5] 23 (0, 0)) (by (with_reducible repeat (first | refine bN ?_ _ | refine bD ?_ | refine bA ?_ _)); exact d3.out) hb); have n7_ := aM (wP (by repeat (first | (with_reducible first | exact HB.out | apply wA | apply wN | apply wD | refine wS ?_ c4.out | refine wS ?_ c8.out | refine wS ?_ c9.out | refine wS ?_ d1.out | refine wS ?_ d2.out | refine wS ?_ f9.out) | exact HB.out)) hb); have n8_ := aM (hbox); have n9_ := aM ((by rw [hg]; exact (below_size (by repeat (first | (with_reducible first | exact HB.out | apply wA | apply wN | apply wD | refine wS ?_ c4.out | refine wS ?_ c8.out | refine wS ?_ c9.out | refine wS ?_ d1.out | refine wS ?_ d2.out | refine wS ?_ f9.out) | exact HB.out))) : w.heap.size ≤ d0)); have d6 := aM ((by rw [hg]; exact (below_size (by repeat (first | (with_reducible first | exact HB.out | apply wA | apply wN | apply wD | refine wS ?_ c4.out | refine wS ?_ c8.out | refine wS ?_ c9.out | refine wS ?_ d1.out | refine wS ?_ d2.out | refine wS ?_ f9.out) | exact HB.out))) : w.heap.size ≤ d0)); have d7 := aM ((by rw [hg]; exact Nat.ne_of_lt (bL (g := b4) (o := .cells #[.int .i64 a0_0, .int .i64 a0_1] 23 (0, 0)) (by (with_reducible repeat (first | refine bN ?_ _ | refine bD ?_ | refine bA ?_ _)); exact a0.out)) : b4 ≠ d0)); have d8 := aM ((by rw [hg]; exact Nat.ne_of_gt (bL (g := b4) (o := .cells #[.int .i64 a0_0, .int .i64 a0_1] 23 (0, 0)) (by (with_reducible repeat (first | refine bN ?_ _ | refine bD ?_ | refine bA ?_ _)); exact a0.out)) : d0 ≠ b4)); have d9 := aM ((by rw [hg]; exact Nat.ne_of_lt (bL (g := b5) (o := .cells #[.int .i64 a1_0, .int .i64 a1_1] 23 (0, 0)) (by (with_reducible repeat (first | refine bN ?_ _ | refine bD ?_ | refine bA ?_ _)); exact a1.out)) : b5 ≠ d0)); have f3 := aM ((by rw [hg]; exact Nat.ne_of_gt (bL (g := b5) (o := .cells #[.int .i64 a1_0, .int .i64 a1_1] 23 (0, 0)) (by (with_reducible repeat (first | refine bN ?_ _ | refine bD ?_ | refine bA ?_ _)); exact a1.out)) : d0 ≠ b5)); have f4 := aM ((by rw [hg]; exact Nat.ne_of_lt (bL (g := b7) (o := .cells #[.int .i64 a2_0, .int .i64 a2_1] 23 (0, 0)) (by (with_reducible repeat (first | refine bN ?_ _ | refine bD ?_ | refine bA ?_ _)); exact a2.out)) : b7 ≠ d0)); have f5 := aM ((by rw [hg]; exact Nat.ne_of_gt (bL (g := b7) (o := .cells #[.int .i64 a2_0, .int .i64 a2_1] 23 (0, 0)) (by (with_reducible repeat (first | refine bN ?_ _ | refine bD ?_ | refine bA ?_ _)); exact a2.out)) : d0 ≠ b7)); have g3 := aM ((by rw [hg]; exact Nat.ne_of_lt (bL (g := b0) (o := .cells #[.int .i64 b2, .int .i64 a9] 23 (0, 0)) (by (with_reducible repeat (first | refine bN ?_ _ | refine bD ?_ | refine bA ?_ _)); exact a5.out)) : b0 ≠ d0)); have g4 := aM ((by rw [hg]; exact Nat.ne_of_gt (bL (g := b0) (o := .cells #[.int .i64 b2, .int .i64 a9] 23 (0, 0)) (by (with_reducible repeat (first | refine bN ?_ _ | refine bD ?_ | refine bA ?_ _)); exact a5.out)) : d0 ≠ b0)); have g5 := aM ((by rw [hg]; exact Nat.ne_of_lt (bL (g := b1) (o := .cells #[.int .i64 a8, .int .i64 a7] 23 (0, 0)) (by (with_reducible repeat (first | refine bN ?_ _ | refine bD ?_ | refine bA ?_ _)); exact a4.out)) : b1 ≠ d0)); have m3 := aM ((by rw [hg]; exact Nat.ne_of_gt (bL (g := b1) (o := .cells #[.int .i64 a8, .int .i64 a7] 23 (0, 0)) (by (with_reducible repeat (first | refine bN ?_ _ | refine bD ?_ | refine bA ?_ _)); exact a4.out)) : d0 ≠ b1)); have m4 := aM ((by rw [hg]; exact Nat.ne_of_lt (bL (g := b6) (o := .cells #[.int .i64 d4, .int .i64 d5] 23 (0, 0)) (by (with_reducible repeat (first | refine bN ?_ _ | refine bD ?_ | refine bA ?_ _)); exact d3.out)) : b6 ≠ d0)); have m5 := aM ((by rw [hg]; exact Nat.ne_of_gt (bL (g := b6) (o := .cells #[.int .i64 d4, .int .i64 d5] 23 (0, 0)) (by (with_reducible repeat (first | refine bN ?_ _ | refine bD ?_ | refine bA ?_ _)); exact d3.out)) : d0 ≠ b6)); clear b3; clear a0; clear a1; clear a2; clear a5; clear a4; clear d3; clear HB; have b3 := n0_; have a0 := n1_; have a1 := n2_; have a2 := n3_; have a5 := n4_; have a4 := n5_; have d3 := n6_; have HB := n7_; have g6 := n8_; have t9 := n9_; have o7 := d6; have j3 := d7; have j4 := d8; have j5 := d9; have j6 := f3; have j7 := f4; have j8 := f5; have j9 := g3; have l2 := g4; have l3 := g5; have l4 := m3; have l5 := m4; have l6 := m5; clear n0_ n1_ n2_ n3_ n4_ n5_ n6_ n7_ n8_ n9_ d6 d7 d8 d9 f3 f4 f5 g3 g4 g5 m3 m4 m5; clear hb hbox hg; have X9 := j4.out; have Y0 := j3.out; have Y1 := j6.out; have Y2 := j5.out; have Y3 := j8.out; have Y4 := j7.out; have Y5 := l2.out; have Y6 := j9.out; have Y7 := l4.out; have Y8 := l3.out; have Y9 := l6.out; have Z0 := l5.out; have H5 : C0.cell? ⟨d0, 0, none⟩ = some (.int .i64 0) := (blk_cell g6.out 0).trans rfl; have H6 : C0.cell? ⟨d0, 1, none⟩ = some (.int .i64 0) := (blk_cell g6.out 1).trans rfl; have H7 := blk_frozen g6.out 0; have H8 := blk_frozen g6.out 1))
       go_ret
       exact ⟨by first | rfl | (simp [errW_none, errW_some] <;> rfl) | (simp [*, errW_none, errW_some] <;> rfl), by repeat (first | (with_reducible first | exact HB.out | apply wA | apply wN | apply wD | refine wS ?_ c4.out | refine wS ?_ c8.out | refine wS ?_ c9.out | refine wS ?_ d1.out | refine wS ?_ d2.out | refine wS ?_ f9.out | refine wS ?_ o7.out) | exact HB.out)⟩
     ·replace c84 := Bool.eq_false_iff.mpr c84
      subst c84
      have H1 : (some false) = some r := by rw [if_neg (show ¬ (false = true) by decide)] at H; exact H
      clear H
      have H := H1
      clear H1
      obtain rfl := Option.some.inj H
      go_wp2_with (first | ((with_reducible refine gC (f := 14) rfl ?_); refine gL (some 105) rfl rfl Tryd.func14 (by kernel_rfl) rfl #[.slice (some b9) a3.length h6] rfl (by (try simp only [List.map_toArray, List.map_cons, List.map_nil]); first | done | rfl | (simp only [List.length_drop, List.length_take]; rfl)) ?_; (with_reducible refine (impl_RGMax.calls _ _ a3 d4 d5 false _ ?side1 ?side2 A82.out).mono ?_); (case side1 => repeat (first | exact (Kd.R_reads' b3.out).2.2 | (with_reducible refine Kd.C_alloc ?_ _) | (with_reducible refine Kd.C_drewN ?_ _) | (with_reducible refine Kd.C_drew ?_))); (case side2 => exact (Kd.R_reads' b3.out).2.1); rintro e by_ ⟨rfl, hb⟩; refine ⟨_, rfl, ?_⟩; have n0_ := aM (Kd.R_below (by (with_reducible repeat (first | apply Kd.R_alloc | apply Kd.R_drewN | apply Kd.R_drew)); exact b3.out) hb); have n1_ := aM (bB (g := b4) (o := .cells #[.int .i64 a0_0, .int .i64 a0_1] 23 (0, 0)) (by (with_reducible repeat (first | refine bN ?_ _ | refine bD ?_ | refine bA ?_ _)); exact a0.out) hb); have n2_ := aM (bB (g := b5) (o := .cells #[.int .i64 a1_0, .int .i64 a1_1] 23 (0, 0)) (by (with_reducible repeat (first | refine bN ?_ _ | refine bD ?_ | refine bA ?_ _)); exact a1.out) hb); have n3_ := aM (bB (g := b7) (o := .cells #[.int .i64 a2_0, .int .i64 a2_1] 23 (0, 0)) (by (with_reducible repeat (first | refine bN ?_ _ | refine bD ?_ | refine bA ?_ _)); exact a2.out) hb); have n4_ := aM (bB (g := b0) (o := .cells #[.int .i64 b2, .int .i64 a9] 23 (0, 0)) (by (with_reducible repeat (first | refine bN ?_ _ | refine bD ?_ | refine bA ?_ _)); exact a5.out) hb); have n5_ := aM (bB (g := b1) (o := .cells #[.int .i64 a8, .int .i64 a7] 23 (0, 0)) (by (with_reducible repeat (first | refine bN ?_ _ | refine bD ?_ | refine bA ?_ _)); exact a4.out) hb); have n6_ := aM (wP (by repeat (first | (with_reducible first | exact HB.out | apply wA | apply wN | apply wD | refine wS ?_ c4.out | refine wS ?_ c8.out | refine wS ?_ c9.out | refine wS ?_ d1.out | refine wS ?_ d2.out) | exact HB.out)) hb); clear b3; clear a0; clear a1; clear a2; clear a5; clear a4; clear HB; have b3 := n0_; have a0 := n1_; have a1 := n2_; have a2 := n3_; have a5 := n4_; have a4 := n5_; have HB := n6_; clear n0_ n1_ n2_ n3_ n4_ n5_ n6_; (try clear hb); (try clear hb2); (try clear hk); (try clear hi)) | ((with_reducible refine gate_dst (N := 14) rfl ?_); refine box_event ?hg (N := 14) ?hd (cs := #[.int .i64 0, .int .i64 0]) (t := 23) ?hr ?_; (case hd => rfl); (case hg => rfl); (case hr => first | (go_simp; done) | (go_simp; rfl)); intro b6 hg C1 hbox hb; have n0_ := aM (Kd.R_below (Kd.R_elderB (by (with_reducible repeat (first | apply Kd.R_alloc | apply Kd.R_drewN | apply Kd.R_drew)); exact b3.out) b6 (Nat.le_of_eq hg.symm)) hb); have n1_ := aM (bB (g := b4) (o := .cells #[.int .i64 a0_0, .int .i64 a0_1] 23 (0, 0)) (by (with_reducible repeat (first | refine bN ?_ _ | refine bD ?_ | refine bA ?_ _)); exact a0.out) hb); have n2_ := aM (bB (g := b5) (o := .cells #[.int .i64 a1_0, .int .i64 a1_1] 23 (0, 0)) (by (with_reducible repeat (first | refine bN ?_ _ | refine bD ?_ | refine bA ?_ _)); exact a1.out) hb); have n3_ := aM (bB (g := b7) (o := .cells #[.int .i64 a2_0, .int .i64 a2_1] 23 (0, 0)) (by (with_reducible repeat (first | refine bN ?_ _ | refine bD ?_ | refine bA ?_ _)); exact a2.out) hb); have n4_ := aM (bB (g := b0) (o := .cells #[.int .i64 b2, .int .i64 a9] 23 (0, 0)) (by (with_reducible repeat (first | refine bN ?_ _ | refine bD ?_ | refine bA ?_ _)); exact a5.out) hb); have n5_ := aM (bB (g := b1) (o := .cells #[.int .i64 a8, .int .i64 a7] 23 (0, 0)) (by (with_reducible repeat (first | refine bN ?_ _ | refine bD ?_ | refine bA ?_ _)); exact a4.out) hb); have n6_ := aM (wP (by repeat (first | (with_reducible first | exact HB.out | apply wA | apply wN | apply wD | refine wS ?_ c4.out | refine wS ?_ c8.out | refine wS ?_ c9.out | refine wS ?_ d1.out | refine wS ?_ d2.out) | exact HB.out)) hb); have n7_ := aM (hbox); have n8_ := aM ((by rw [hg]; exact (below_size (by repeat (first | (with_reducible first | exact HB.out | apply wA | apply wN | apply wD | refine wS ?_ c4.out | refine wS ?_ c8.out | refine wS ?_ c9.out | refine wS ?_ d1.out | refine wS ?_ d2.out) | exact HB.out))) : w.heap.size ≤ b6)); have n9_ := aM ((by rw [hg]; exact (below_size (by repeat (first | (with_reducible first | exact HB.out | apply wA | apply wN | apply wD | refine wS ?_ c4.out | refine wS ?_ c8.out | refine wS ?_ c9.out | refine wS ?_ d1.out | refine wS ?_ d2.out) | exact HB.out))) : w.heap.size ≤ b6)); have d6 := aM ((by rw [hg]; exact Nat.ne_of_lt (bL (g := b4) (o := .cells #[.int .i64 a0_0, .int .i64 a0_1] 23 (0, 0)) (by (with_reducible repeat (first | refine bN ?_ _ | refine bD ?_ | refine bA ?_ _)); exact a0.out)) : b4 ≠ b6)); have d7 := aM ((by rw [hg]; exact Nat.ne_of_gt (bL (g := b4) (o := .cells #[.int .i64 a0_0, .int .i64 a0_1] 23 (0, 0)) (by (with_reducible repeat (first | refine bN ?_ _ | refine bD ?_ | refine bA ?_ _)); exact a0.out)) : b6 ≠ b4)); have d8 := aM ((by rw [hg]; exact Nat.ne_of_lt (bL (g := b5) (o := .cells #[.int .i64 a1_0, .int .i64 a1_1] 23 (0, 0)) (by (with_reducible repeat (first | refine bN ?_ _ | refine bD ?_ | refine bA ?_ _)); exact a1.out)) : b5 ≠ b6)); have d9 := aM ((by rw [hg]; exact Nat.ne_of_gt (bL (g := b5) (o := .cells #[.int .i64 a1_0, .int .i64 a1_1] 23 (0, 0)) (by (with_reducible repeat (first | refine bN ?_ _ | refine bD ?_ | refine bA ?_ _)); exact a1.out)) : b6 ≠ b5)); have f3 := aM ((by rw [hg]; exact Nat.ne_of_lt (bL (g := b7) (o := .cells #[.int .i64 a2_0, .int .i64 a2_1] 23 (0, 0)) (by (with_reducible repeat (first | refine bN ?_ _ | refine bD ?_ | refine bA ?_ _)); exact a2.out)) : b7 ≠ b6)); have f4 := aM ((by rw [hg]; exact Nat.ne_of_gt (bL (g := b7) (o := .cells #[.int .i64 a2_0, .int .i64 a2_1] 23 (0, 0)) (by (with_reducible repeat (first | refine bN ?_ _ | refine bD ?_ | refine bA ?_ _)); exact a2.out)) : b6 ≠ b7)); have f5 := aM ((by rw [hg]; exact Nat.ne_of_lt (bL (g := b0) (o := .cells #[.int .i64 b2, .int .i64 a9] 23 (0, 0)) (by (with_reducible repeat (first | refine bN ?_ _ | refine bD ?_ | refine bA ?_ _)); exact a5.out)) : b0 ≠ b6)); have g3 := aM ((by rw [hg]; exact Nat.ne_of_gt (bL (g := b0) (o := .cells #[.int .i64 b2, .int .i64 a9] 23 (0, 0)) (by (with_reducible repeat (first | refine bN ?_ _ | refine bD ?_ | refine bA ?_ _)); exact a5.out)) : b6 ≠ b0)); have g4 := aM ((by rw [hg]; exact Nat.ne_of_lt (bL (g := b1) (o := .cells #[.int .i64 a8, .int .i64 a7] 23 (0, 0)) (by (with_reducible repeat (first | refine bN ?_ _ | refine bD ?_ | refine bA ?_ _)); exact a4.out)) : b1 ≠ b6)); have g5 := aM ((by rw [hg]; exact Nat.ne_of_gt (bL (g := b1) (o := .cells #[.int .i64 a8, .int .i64 a7] 23 (0, 0)) (by (with_reducible repeat (first | refine bN ?_ _ | refine bD ?_ | refine bA ?_ _)); exact a4.out)) : b6 ≠ b1)); clear b3; clear a0; clear a1; clear a2; clear a5; clear a4; clear HB; have b3 := n0_; have a0 := n1_; have a1 := n2_; have a2 := n3_; have a5 := n4_; have a4 := n5_; have HB := n6_; have d3 := n7_; have t8 := n8_; have f9 := n9_; have e2 := d6; have h7 := d7; have e3 := d8; have h8 := d9; have e4 := f3; have h9 := f4; have e5 := f5; have j0 := g3; have e6 := g4; have j1 := g5; clear n0_ n1_ n2_ n3_ n4_ n5_ n6_ n7_ n8_ n9_ d6 d7 d8 d9 f3 f4 f5 g3 g4 g5; clear hb hbox hg; have Z1 := h7.out; have Z2 := e2.out; have Z3 := h8.out; have Z4 := e3.out; have Z5 := h9.out; have Z6 := e4.out; have Z7 := j0.out; have Z8 := e5.out; have Z9 := j1.out; have aa_ := e6.out; have H9 : C1.cell? ⟨b6, 0, none⟩ = some (.int .i64 0) := (blk_cell d3.out 0).trans rfl; have J0 : C1.cell? ⟨b6, 1, none⟩ = some (.int .i64 0) := (blk_cell d3.out 1).trans rfl; have J1 := blk_frozen d3.out 0; have J2 := blk_frozen d3.out 1) | ((with_reducible refine gC (f := 15) rfl ?_); refine gL (some 110) rfl rfl Tryd.func15 (by kernel_rfl) rfl #[.slice (some b9) a3.length h6] rfl (by (try simp only [List.map_toArray, List.map_cons, List.map_nil]); first | done | rfl | (simp only [List.length_drop, List.length_take]; rfl)) ?_; (with_reducible refine (impl_RGMin.calls _ _ a3 q3 q4 t7 _ ?side1 ?side2 A83.out).mono ?_); (case side1 => refine (Kd.R_reads' (e := 23) (base := w.heap.size) (ok := fun k_ => ((k_ ≠ b4 ∧ (k_ ≠ b5 ∧ (k_ ≠ b7 ∧ (k_ ≠ b0 ∧ k_ ≠ b1)))) ∧ k_ ≠ b6)) (n := a3.length) (c := h6) ?_).2.2; exact (by (with_reducible repeat (first | apply Kd.R_alloc | apply Kd.R_drewN | apply Kd.R_drew)); exact (Kd.R_mono (Kd.R_far (p := ⟨b6, 1, none⟩) (Kd.R_far (p := ⟨b6, 0, none⟩) (Kd.R_mono b3.out (fun k_ hk => (⟨hk, hk.2⟩ : _ ∧ k_ ≠ b6))) (fun _ hk => hk.2) (.int .i64 d4)) (fun _ hk => hk.2) (.int .i64 d5)) (fun _ h_ => h_.1)))); (case side2 => exact (Kd.R_reads' b3.out).2.1); rintro e bz_ ⟨rfl, hb⟩; refine ⟨_, rfl, ?_⟩; have n0_ := aM (Kd.R_below (by (with_reducible repeat (first | apply Kd.R_alloc | apply Kd.R_drewN | apply Kd.R_drew)); exact (Kd.R_mono (Kd.R_far (p := ⟨b6, 1, none⟩) (Kd.R_far (p := ⟨b6, 0, none⟩) (Kd.R_mono b3.out (fun k_ hk => (⟨hk, hk.2⟩ : _ ∧ k_ ≠ b6))) (fun _ hk => hk.2) (.int .i64 d4)) (fun _ hk => hk.2) (.int .i64 d5)) (fun _ h_ => h_.1))) hb); have n1_ := aM (bB (g := b4) (o := .cells #[.int .i64 a0_0, .int .i64 a0_1] 23 (0, 0)) (by (with_reducible repeat (first | refine bN ?_ _ | refine bD ?_ | refine bA ?_ _)); refine blk_far ?_ e2.out _; (with_reducible repeat (first | refine bN ?_ _ | refine bD ?_ | refine bA ?_ _)); refine blk_far ?_ e2.out _; (with_reducible repeat (first | refine bN ?_ _ | refine bD ?_ | refine bA ?_ _)); exact a0.out) hb); have n2_ := aM (bB (g := b5) (o := .cells #[.int .i64 a1_0, .int .i64 a1_1] 23 (0, 0)) (by (with_reducible repeat (first | refine bN ?_ _ | refine bD ?_ | refine bA ?_ _)); refine blk_far ?_ e3.out _; (with_reducible repeat (first | refine bN ?_ _ | refine bD ?_ | refine bA ?_ _)); refine blk_far ?_ e3.out _; (with_reducible repeat (first | refine bN ?_ _ | refine bD ?_ | refine bA ?_ _)); exact a1.out) hb); have n3_ := aM (bB (g := b7) (o := .cells #[.int .i64 a2_0, .int .i64 a2_1] 23 (0, 0)) (by (with_reducible repeat (first | refine bN ?_ _ | refine bD ?_ | refine bA ?_ _)); refine blk_far ?_ e4.out _; (with_reducible repeat (first | refine bN ?_ _ | refine bD ?_ | refine bA ?_ _)); refine blk_far ?_ e4.out _; (with_reducible repeat (first | refine bN ?_ _ | refine bD ?_ | refine bA ?_ _)); exact a2.out) hb); have n4_ := aM (bB (g := b0) (o := .cells #[.int .i64 b2, .int .i64 a9] 23 (0, 0)) (by (with_reducible repeat (first | refine bN ?_ _ | refine bD ?_ | refine bA ?_ _)); refine blk_far ?_ e5.out _; (with_reducible repeat (first | refine bN ?_ _ | refine bD ?_ | refine bA ?_ _)); refine blk_far ?_ e5.out _; (with_reducible repeat (first | refine bN ?_ _ | refine bD ?_ | refine bA ?_ _)); exact a5.out) hb); have n5_ := aM (bB (g := b1) (o := .cells #[.int .i64 a8, .int .i64 a7] 23 (0, 0)) (by (with_reducible repeat (first | refine bN ?_ _ | refine bD ?_ | refine bA ?_ _)); refine blk_far ?_ e6.out _; (with_reducible repeat (first | refine bN ?_ _ | refine bD ?_ | refine bA ?_ _)); refine blk_far ?_ e6.out _; (with_reducible repeat (first | refine bN ?_ _ | refine bD ?_ | refine bA ?_ _)); exact a4.out) hb); have n6_ := aM (bB (g := b6) (o := .cells #[.int .i64 d4, .int .i64 d5] 23 (0, 0)) (by (with_reducible repeat (first | refine bN ?_ _ | refine bD ?_ | refine bA ?_ _)); refine blk_put (cs := #[.int .i64 d4, .int .i64 0]) ?_ 1 _ rfl; (with_reducible repeat (first | refine bN ?_ _ | refine bD ?_ | refine bA ?_ _)); refine blk_put (cs := #[.int .i64 0, .int .i64 0]) ?_ 0 _ rfl; (with_reducible repeat (first | refine bN ?_ _ | refine bD ?_ | refine bA ?_ _)); exact d3.out) hb); have n7_ := aM (wP (by repeat (first | (with_reducible first | exact HB.out | apply wA | apply wN | apply wD | refine wS ?_ c4.out | refine wS ?_ c8.out | refine wS ?_ c9.out | refine wS ?_ d1.out | refine wS ?_ d2.out | refine wS ?_ f9.out) | exact HB.out)) hb); clear b3; clear a0; clear a1; clear a2; clear a5; clear a4; clear d3; clear HB; have b3 := n0_; have a0 := n1_; have a1 := n2_; have a2 := n3_; have a5 := n4_; have a4 := n5_; have d3 := n6_; have HB := n7_; clear n0_ n1_ n2_ n3_ n4_ n5_ n6_ n7_; (try clear hb); (try clear hb2); (try clear hk); (try clear hi)) | ((with_reducible refine gate_dst (N := 16) rfl ?_); refine box_event ?hg (N := 16) ?hd (cs := #[.int .i64 0, .int .i64 0]) (t := 23) ?hr ?_; (case hd => rfl); (case hg => rfl); (case hr => first | (go_simp; done) | (go_simp; rfl)); intro d0 hg C2 hbox hb; have n0_ := aM (Kd.R_below (Kd.R_elderB (by (with_reducible repeat (first | apply Kd.R_alloc | apply Kd.R_drewN | apply Kd.R_drew)); exact b3.out) d0 (Nat.le_of_eq hg.symm)) hb); have n1_ := aM (bB (g := b4) (o := .cells #[.int .i64 a0_0, .int .i64 a0_1] 23 (0, 0)) (by (with_reducible repeat (first | refine bN ?_ _ | refine bD ?_ | refine bA ?_ _)); exact a0.out) hb); have n2_ := aM (bB (g := b5) (o := .cells #[.int .i64 a1_0, .int .i64 a1_1] 23 (0, 0)) (by (with_reducible repeat (first | refine bN ?_ _ | refine bD ?_ | refine bA ?_ _)); exact a1.out) hb); have n3_ := aM (bB (g := b7) (o := .cells #[.int .i64 a2_0, .int .i64 a2_1] 23 (0, 0)) (by (with_reducible repeat (first | refine bN ?_ _ | refine bD ?_ | refine bA ?_ _)); exact a2.out) hb); have n4_ := aM (bB (g := b0) (o := .cells #[.int .i64 b2, .int .i64 a9] 23 (0, 0)) (by (with_reducible repeat (first | refine bN ?_ _ | refine bD ?_ | refine bA ?_ _)); exact a5.out) hb); have n5_ := aM (bB (g := b1) (o := .cells #[.int .i64 a8, .int .i64 a7] 23 (0, 0)) (by (with_reducible repeat (first | refine bN ?_ _ | refine bD ?_ | refine bA ?_ _)); exact a4.out) hb); have n6_ := aM (bB (g := b6) (o := .cells #[.int .i64 d4, .int .i64 d5] 23 (0, 0)) (by (with_reducible repeat (first | refine bN ?_ _ | refine bD ?_ | refine bA ?_ _)); exact d3.out) hb); have n7_ := aM (wP (by repeat (first | (with_reducible first | exact HB.out | apply wA | apply wN | apply wD | refine wS ?_ c4.out | refine wS ?_ c8.out | refine wS ?_ c9.out | refine wS ?_ d1.out | refine wS ?_ d2.out | refine wS ?_ f9.out) | exact HB.out)) hb); have n8_ := aM (hbox); have n9_ := aM ((by rw [hg]; exact (below_size (by repeat (first | (with_reducible first | exact HB.out | apply wA | apply wN | apply wD | refine wS ?_ c4.out | refine wS ?_ c8.out | refine wS ?_ c9.out | refine wS ?_ d1.out | refine wS ?_ d2.out | refine wS ?_ f9.out) | exact HB.out))) : w.heap.size ≤ d0)); have d6 := aM ((by rw [hg]; exact (below_size (by repeat (first | (with_reducible first | exact HB.out | apply wA | apply wN | apply wD | refine wS ?_ c4.out | refine wS ?_ c8.out | refine wS ?_ c9.out | refine wS ?_ d1.out | refine wS ?_ d2.out | refine wS ?_ f9.out) | exact HB.out))) : w.heap.size ≤ d0)); have d7 := aM ((by rw [hg]; exact Nat.ne_of_lt (bL (g := b4) (o := .cells #[.int .i64 a0_0, .int .i64 a0_1] 23 (0, 0)) (by (with_reducible repeat (first | refine bN ?_ _ | refine bD ?_ | refine bA ?_ _)); exact a0.out)) : b4 ≠ d0)); have d8 := aM ((by rw [hg]; exact Nat.ne_of_gt (bL (g := b4) (o := .cells #[.int .i64 a0_0, .int .i64 a0_1] 23 (0, 0)) (by (with_reducible repeat (first | refine bN ?_ _ | refine bD ?_ | refine bA ?_ _)); exact a0.out)) : d0 ≠ b4)); have d9 := aM ((by rw [hg]; exact Nat.ne_of_lt (bL (g := b5) (o := .cells #[.int .i64 a1_0, .int .i64 a1_1] 23 (0, 0)) (by (with_reducible repeat (first | refine bN ?_ _ | refine bD ?_ | refine bA ?_ _)); exact a1.out)) : b5 ≠ d0)); have f3 := aM ((by rw [hg]; exact Nat.ne_of_gt (bL (g := b5) (o := .cells #[.int .i64 a1_0, .int .i64 a1_1] 23 (0, 0)) (by (with_reducible repeat (first | refine bN ?_ _ | refine bD ?_ | refine bA ?_ _)); exact a1.out)) : d0 ≠ b5)); have f4 := aM ((by rw [hg]; exact Nat.ne_of_lt (bL (g := b7) (o := .cells #[.int .i64 a2_0, .int .i64 a2_1] 23 (0, 0)) (by (with_reducible repeat (first | refine bN ?_ _ | refine bD ?_ | refine bA ?_ _)); exact a2.out)) : b7 ≠ d0)); have f5 := aM ((by rw [hg]; exact Nat.ne_of_gt (bL (g := b7) (o := .cells #[.int .i64 a2_0, .int .i64 a2_1] 23 (0, 0)) (by (with_reducible repeat (first | refine bN ?_ _ | refine bD ?_ | refine bA ?_ _)); exact a2.out)) : d0 ≠ b7)); have g3 := aM ((by rw [hg]; exact Nat.ne_of_lt (bL (g := b0) (o := .cells #[.int .i64 b2, .int .i64 a9] 23 (0, 0)) (by (with_reducible repeat (first | refine bN ?_ _ | refine bD ?_ | refine bA ?_ _)); exact a5.out)) : b0 ≠ d0)); have g4 := aM ((by rw [hg]; exact Nat.ne_of_gt (bL (g := b0) (o := .cells #[.int .i64 b2, .int .i64 a9] 23 (0, 0)) (by (with_reducible repeat (first | refine bN ?_ _ | refine bD ?_ | refine bA ?_ _)); exact a5.out)) : d0 ≠ b0)); have g5 := aM ((by rw [hg]; exact Nat.ne_of_lt (bL (g := b1) (o := .cells #[.int .i64 a8, .int .i64 a7] 23 (0, 0)) (by (with_reducible repeat (first | refine bN ?_ _ | refine bD ?_ | refine bA ?_ _)); exact a4.out)) : b1 ≠ d0)); have m3 := aM ((by rw [hg]; exact Nat.ne_of_gt (bL (g := b1) (o := .cells #[.int .i64 a8, .int .i64 a7] 23 (0, 0)) (by (with_reducible repeat (first | refine bN ?_ _ | refine bD ?_ | refine bA ?_ _)); exact a4.out)) : d0 ≠ b1)); have m4 := aM ((by rw [hg]; exact Nat.ne_of_lt (bL (g := b6) (o := .cells #[.int .i64 d4, .int .i64 d5] 23 (0, 0)) (by (with_reducible repeat (first | refine bN ?_ _ | refine bD ?_ | refine bA ?_ _)); exact d3.out)) : b6 ≠ d0)); have m5 := aM ((by rw [hg]; exact Nat.ne_of_gt (bL (g := b6) (o := .cells #[.int .i64 d4, .int .i64 d5] 23 (0, 0)) (by (with_reducible repeat (first | refine bN ?_ _ | refine bD ?_ | refine bA ?_ _)); exact d3.out)) : d0 ≠ b6)); clear b3; clear a0; clear a1; clear a2; clear a5; clear a4; clear d3; clear HB; have b3 := n0_; have a0 := n1_; have a1 := n2_; have a2 := n3_; have a5 := n4_; have a4 := n5_; have d3 := n6_; have HB := n7_; have g6 := n8_; have t9 := n9_; have o7 := d6; have j3 := d7; have j4 := d8; have j5 := d9; have j6 := f3; have j7 := f4; have j8 := f5; have j9 := g3; have l2 := g4; have l3 := g5; have l4 := m3; have l5 := m4; have l6 := m5; clear n0_ n1_ n2_ n3_ n4_ n5_ n6_ n7_ n8_ n9_ d6 d7 d8 d9 f3 f4 f5 g3 g4 g5 m3 m4 m5; clear hb hbox hg; have ab_ := j4.out; have ac_ := j3.out; have ad_ := j6.out; have ae_ := j5.out; have af_ := j8.out; have ag_ := j7.out; have ah_ := l2.out; have ai_ := j9.out; have aj_ := l4.out; have al_ := l3.out; have am_ := l6.out; have an_ := l5.out; have J3 : C2.cell? ⟨d0, 0, none⟩ = some (.int .i64 0) := (blk_cell g6.out 0).trans rfl; have J4 : C2.cell? ⟨d0, 1, none⟩ = some (.int .i64 0) := (blk_cell g6.out 1).trans rfl; have J5 := blk_frozen g6.out 0; have J6 := blk_frozen g6.out 1))
      go_ret
      exact ⟨by first | rfl | (simp [errW_none, errW_some] <;> rfl) | (simp [*, errW_none, errW_some] <;> rfl), by repeat (first | (with_reducible first | exact HB.out | apply wA | apply wN | apply wD | refine wS ?_ c4.out | refine wS ?_ c8.out | refine wS ?_ c9.out | refine wS ?_ d1.out | refine wS ?_ d2.out | refine wS ?_ f9.out | refine wS ?_ o7.out) | exact HB.out)⟩
 ·rw [if_neg c7] at H
  exact absurd H (by simp)

end Go.Proofs.YtlcoodjkolponaaDoor.PRG
