-- written by gprint.py, a program of this claim's own, by means of the kit's print
import Derived.Test.YtlcoodjkolponaaDoorLRRFulld
namespace Go.Proofs.YtlcoodjkolponaaDoor.PRR
open Go.RowKit Go.Proofs.YtlcoodjkolponaaDoorW.PrintWords Go.Proofs.YtlcoodjkolponaaDoorW.PrintLast Go.Proofs.YtlcoodjkolponaaDoorW.PrintMore
attribute [local go_sem] max2_int min2_int max_two min_two max_three min_three max_four min_four   -- for this text's walks alone
set_option linter.unusedVariables false
set_option linter.unusedSimpArgs false
open Go.Proofs.YtlcoodjkolponaaDoorW.PrintWords renaming blk_drewN → bN, blk_drew → bD, blk_alloc → bA, below_set → wS, below_alloc → wA, pw_below_drewN → wN, below_drew1 → wD, below_step → wP, blk_below → bB, blk_lt → bL
open Go.Proofs.YtlcoodjkolponaaDoorW.PrintWords.Aside0 renaming mk → aM
set_option maxHeartbeats 8000000 in
set_option maxRecDepth 100000 in
theorem laws_rgFull.calls (k : Nat) (a0_0 : Int) (a0_1 : Int) (a0_2 : Int) (a0_3 : Int) (r1 : Int) (r2 : Int) (r3 : Int) (r4 : Int) (w : World) (h : laws_rgFull.f k a0_0 a0_1 a0_2 a0_3 = some (r1, r2, r3, r4)) :
  Calls Tryd.prog 21 #[.agg #[.int .i64 a0_0, .int .i64 a0_1, .int .i64 a0_2, .int .i64 a0_3]] w fun e w' => e = .returned (.agg #[.int .i64 r1, .int .i64 r2, .int .i64 r3, .int .i64 r4]) ∧ Below w.heap.size w w' := by
 have t2 := Tryd.underlying44
 have t3 := Tryd.underlying23
 have HB := aM (Below.refl w.heap.size w)
 have H : ((laws_rgCut.f a0_0 a0_1).bind fun f9 => ((laws_rgCut.f a0_2 a0_3).bind fun d7 => ((spec_RGPlace.f k f9.1 f9.2).bind fun d9 => ((spec_RGPlace.f k d7.1 d7.2).bind fun d8 => (if d9 > d8 then (laws_rgFull.j0 k d7.1 d7.2 f9.1 f9.2) else (laws_rgFull.j0 k f9.1 f9.2 d7.1 d7.2)))))) = some (r1, r2, r3, r4) := h
 clear h
 replace H := Option.bind_eq_some_iff.mp H
 obtain ⟨⟨c8, c9⟩, A20, H⟩ := H
 replace H : ((laws_rgCut.f a0_2 a0_3).bind fun d7 => ((spec_RGPlace.f k c8 c9).bind fun d9 => ((spec_RGPlace.f k d7.1 d7.2).bind fun d8 => (if d9 > d8 then (laws_rgFull.j0 k d7.1 d7.2 c8 c9) else (laws_rgFull.j0 k c8 c9 d7.1 d7.2))))) = some (r1, r2, r3, r4) := H
 have A2 := aM A20
 clear A20
 replace H := Option.bind_eq_some_iff.mp H
 obtain ⟨⟨d0, d1⟩, A30, H⟩ := H
 replace H : ((spec_RGPlace.f k c8 c9).bind fun d9 => ((spec_RGPlace.f k d0 d1).bind fun d8 => (if d9 > d8 then (laws_rgFull.j0 k d0 d1 c8 c9) else (laws_rgFull.j0 k c8 c9 d0 d1)))) = some (r1, r2, r3, r4) := H
 have A3 := aM A30
 clear A30
 replace H := Option.bind_eq_some_iff.mp H
 obtain ⟨d9, A40, H⟩ := H
 replace H : ((spec_RGPlace.f k d0 d1).bind fun d8 => (if d9 > d8 then (laws_rgFull.j0 k d0 d1 c8 c9) else (laws_rgFull.j0 k c8 c9 d0 d1))) = some (r1, r2, r3, r4) := H
 have A4 := aM A40
 clear A40
 replace H := Option.bind_eq_some_iff.mp H
 obtain ⟨d8, A50, H⟩ := H
 replace H : (if d9 > d8 then (laws_rgFull.j0 k d0 d1 c8 c9) else (laws_rgFull.j0 k c8 c9 d0 d1)) = some (r1, r2, r3, r4) := H
 have A5 := aM A50
 clear A50
 have HC6 := aM H
 clear H
 go_enter Tryd.func21, Tryd.ntmps21
 try go_wp2_with (first | ((with_reducible refine gate_dst (N := 1) rfl ?_); refine box_event ?hg (N := 1) ?hd (cs := #[.int .i64 a0_0, .int .i64 a0_1, .int .i64 a0_2, .int .i64 a0_3]) (t := 44) ?hr ?_; (case hd => rfl); (case hg => rfl); (case hr => first | (go_simp; done) | (go_simp; rfl)); intro a1 hg w7 hbox hb; have n0_ := aM (wP (by repeat (first | (with_reducible first | exact HB.out | apply wA | apply wN | apply wD) | exact HB.out)) hb); have n1_ := aM (hbox); have n2_ := aM ((by rw [hg]; exact (below_size (by repeat (first | (with_reducible first | exact HB.out | apply wA | apply wN | apply wD) | exact HB.out))) : w.heap.size ≤ a1)); have n3_ := aM ((by rw [hg]; exact (below_size (by repeat (first | (with_reducible first | exact HB.out | apply wA | apply wN | apply wD) | exact HB.out))) : w.heap.size ≤ a1)); clear HB; have HB := n0_; have a0 := n1_; have o9 := n2_; have a8 := n3_; clear n0_ n1_ n2_ n3_; clear hb hbox hg) | ((with_reducible refine gate_dst (N := 2) rfl ?_); refine box_event ?hg (N := 2) ?hd (cs := #[.int .i64 0, .int .i64 0, .int .i64 0, .int .i64 0]) (t := 44) ?hr ?_; (case hd => rfl); (case hg => rfl); (case hr => first | (go_simp; done) | (go_simp; rfl)); intro a5 hg w8 hbox hb; have n0_ := aM (bB (g := a1) (o := .cells #[.int .i64 a0_0, .int .i64 a0_1, .int .i64 a0_2, .int .i64 a0_3] 44 (0, 0)) (by (with_reducible repeat (first | refine bN ?_ _ | refine bD ?_ | refine bA ?_ _)); exact a0.out) hb); have n1_ := aM (wP (by repeat (first | (with_reducible first | exact HB.out | apply wA | apply wN | apply wD | refine wS ?_ a8.out) | exact HB.out)) hb); have n2_ := aM (hbox); have n3_ := aM ((by rw [hg]; exact (below_size (by repeat (first | (with_reducible first | exact HB.out | apply wA | apply wN | apply wD | refine wS ?_ a8.out) | exact HB.out))) : w.heap.size ≤ a5)); have n4_ := aM ((by rw [hg]; exact (below_size (by repeat (first | (with_reducible first | exact HB.out | apply wA | apply wN | apply wD | refine wS ?_ a8.out) | exact HB.out))) : w.heap.size ≤ a5)); have n5_ := aM ((by rw [hg]; exact Nat.ne_of_lt (bL (g := a1) (o := .cells #[.int .i64 a0_0, .int .i64 a0_1, .int .i64 a0_2, .int .i64 a0_3] 44 (0, 0)) (by (with_reducible repeat (first | refine bN ?_ _ | refine bD ?_ | refine bA ?_ _)); exact a0.out)) : a1 ≠ a5)); have n6_ := aM ((by rw [hg]; exact Nat.ne_of_gt (bL (g := a1) (o := .cells #[.int .i64 a0_0, .int .i64 a0_1, .int .i64 a0_2, .int .i64 a0_3] 44 (0, 0)) (by (with_reducible repeat (first | refine bN ?_ _ | refine bD ?_ | refine bA ?_ _)); exact a0.out)) : a5 ≠ a1)); clear a0; clear HB; have a0 := n0_; have HB := n1_; have a2 := n2_; have p0 := n3_; have a9 := n4_; have g0 := n5_; have g1 := n6_; clear n0_ n1_ n2_ n3_ n4_ n5_ n6_; clear hb hbox hg))
 have n0_ := aM (bD a0.out)
 have n1_ := aM (bD a2.out)
 have n2_ := aM (wD HB.out)
 clear a0
 clear a2
 clear HB
 have a0 := n0_
 have a2 := n1_
 have HB := n2_
 clear n0_ n1_ n2_
 refine start_ (n := 18) (S := fun w' => w'.cell? ⟨a1, 0, none⟩ = some (.int .i64 a0_0) ∧ w'.cell? ⟨a1, 1, none⟩ = some (.int .i64 a0_1) ∧ w'.cell? ⟨a1, 2, none⟩ = some (.int .i64 a0_2) ∧ w'.cell? ⟨a1, 3, none⟩ = some (.int .i64 a0_3)) (ds := []) #[false, false, false, false, false, false, false, false, false, false, false, false, false, false, false, false, false, false] (by kernel_rfl) rfl rfl ⟨(blk_cell a0.out 0).trans rfl, (blk_cell a0.out 1).trans rfl, (blk_cell a0.out 2).trans rfl, (blk_cell a0.out 3).trans rfl⟩ (fun hHeld => ?_); refine with_tabW laws_rgFull.tab1 laws_rgFull.bits1 (fun HT_ HW_ => ?_)
 generalize w8.drew = w9 at a0 a2 HB hHeld ⊢
 refine pure_ (i := 0) (N := some 5) (v := ?_) (a' := ?_) #[true, false, false, false, false, false, false, false, false, false, false, false, false, false, false, false, false, false] rfl rfl (any_of HT_.out (by kernel_rfl)) (fun _ _ _ h => h) (Or.inl ⟨by rfl, ?_⟩) ?_ ?_
 rotate_left
 ·intro w'
  go_simp
  with_reducible rfl
 rotate_left
 ·simp only [Act.put, List.setIfInBounds_toArray, List.set_cons_zero, List.set_cons_succ, i64_w, i32_w]
  rfl
 refine pure_ (i := 1) (N := some 6) (v := ?_) (a' := ?_) #[true, true, false, false, false, false, false, false, false, false, false, false, false, false, false, false, false, false] rfl rfl (any_of HT_.out (by kernel_rfl)) (fun _ _ _ h => h) (Or.inl ⟨by rfl, ?_⟩) ?_ ?_
 rotate_left
 ·intro w'
  go_simp
  with_reducible rfl
 rotate_left
 ·simp only [Act.put, List.setIfInBounds_toArray, List.set_cons_zero, List.set_cons_succ, i64_w, i32_w]
  rfl
 refine pure_ (i := 3) (N := some 8) (v := ?_) (a' := ?_) #[true, true, false, true, false, false, false, false, false, false, false, false, false, false, false, false, false, false] rfl rfl (any_of HT_.out (by kernel_rfl)) (fun _ _ _ h => h) (Or.inl ⟨by rfl, ?_⟩) ?_ ?_
 rotate_left
 ·intro w'
  go_simp
  with_reducible rfl
 rotate_left
 ·simp only [Act.put, List.setIfInBounds_toArray, List.set_cons_zero, List.set_cons_succ, i64_w, i32_w]
  rfl
 refine pure_ (i := 4) (N := some 9) (v := ?_) (a' := ?_) #[true, true, false, true, true, false, false, false, false, false, false, false, false, false, false, false, false, false] rfl rfl (any_of HT_.out (by kernel_rfl)) (fun _ _ _ h => h) (Or.inl ⟨by rfl, ?_⟩) ?_ ?_
 rotate_left
 ·intro w'
  go_simp
  with_reducible rfl
 rotate_left
 ·simp only [Act.put, List.setIfInBounds_toArray, List.set_cons_zero, List.set_cons_succ, i64_w, i32_w]
  rfl
 refine pure_ (i := 7) (N := some 12) (v := ?_) (a' := ?_) #[true, true, false, true, true, false, false, true, false, false, false, false, false, false, false, false, false, false] rfl rfl (any_of HT_.out (by kernel_rfl)) (fun _ _ _ h => h) (Or.inl ⟨by rfl, ?_⟩) ?_ ?_
 rotate_left
 ·intro w'
  go_simp
  with_reducible rfl
 rotate_left
 ·simp only [Act.put, List.setIfInBounds_toArray, List.set_cons_zero, List.set_cons_succ, i64_w, i32_w]
  rfl
 refine pure_ (i := 8) (N := some 13) (v := ?_) (a' := ?_) #[true, true, false, true, true, false, false, true, true, false, false, false, false, false, false, false, false, false] rfl rfl (any_of HT_.out (by kernel_rfl)) (fun _ _ _ h => h) (Or.inl ⟨by rfl, ?_⟩) ?_ ?_
 rotate_left
 ·intro w'
  go_simp
  with_reducible rfl
 rotate_left
 ·simp only [Act.put, List.setIfInBounds_toArray, List.set_cons_zero, List.set_cons_succ, i64_w, i32_w]
  rfl
 refine pure_ (i := 10) (N := some 15) (v := ?_) (a' := ?_) #[true, true, false, true, true, false, false, true, true, false, true, false, false, false, false, false, false, false] rfl rfl (any_of HT_.out (by kernel_rfl)) (fun _ _ _ h => h) (Or.inl ⟨by rfl, ?_⟩) ?_ ?_
 rotate_left
 ·intro w'
  go_simp
  with_reducible rfl
 rotate_left
 ·simp only [Act.put, List.setIfInBounds_toArray, List.set_cons_zero, List.set_cons_succ, i64_w, i32_w]
  rfl
 refine pure_ (i := 11) (N := some 16) (v := ?_) (a' := ?_) #[true, true, false, true, true, false, false, true, true, false, true, true, false, false, false, false, false, false] rfl rfl (any_of HT_.out (by kernel_rfl)) (fun _ _ _ h => h) (Or.inl ⟨by rfl, ?_⟩) ?_ ?_
 rotate_left
 ·intro w'
  go_simp
  with_reducible rfl
 rotate_left
 ·simp only [Act.put, List.setIfInBounds_toArray, List.set_cons_zero, List.set_cons_succ, i64_w, i32_w]
  rfl
 refine take_ (i := 2) (N := some 7) (v := ?_) (a' := ?_) #[true, true, true, true, true, false, false, true, true, false, true, true, false, false, false, false, false, false] rfl rfl (take_ofW HT_.out HW_.out (by kernel_rfl)) (fun _ _ _ h => h) (Or.inl ⟨by rfl, ?_⟩) hHeld ?_ ?_
 rotate_left
 ·rintro w' ⟨s0, s1, s2, s3⟩
  go_simp
  with_reducible rfl
 rotate_left
 ·simp only [Act.put, List.setIfInBounds_toArray, List.set_cons_zero, List.set_cons_succ, i64_w, i32_w]
  rfl
 refine take_ (i := 5) (N := some 10) (v := ?_) (a' := ?_) #[true, true, true, true, true, true, false, true, true, false, true, true, false, false, false, false, false, false] rfl rfl (take_ofW HT_.out HW_.out (by kernel_rfl)) (fun _ _ _ h => h) (Or.inl ⟨by rfl, ?_⟩) hHeld ?_ ?_
 rotate_left
 ·rintro w' ⟨s0, s1, s2, s3⟩
  go_simp
  with_reducible rfl
 rotate_left
 ·simp only [Act.put, List.setIfInBounds_toArray, List.set_cons_zero, List.set_cons_succ, i64_w, i32_w]
  rfl
 refine take_ (i := 9) (N := some 14) (v := ?_) (a' := ?_) #[true, true, true, true, true, true, false, true, true, true, true, true, false, false, false, false, false, false] rfl rfl (take_ofW HT_.out HW_.out (by kernel_rfl)) (fun _ _ _ h => h) (Or.inl ⟨by rfl, ?_⟩) hHeld ?_ ?_
 rotate_left
 ·rintro w' ⟨s0, s1, s2, s3⟩
  go_simp
  with_reducible rfl
 rotate_left
 ·simp only [Act.put, List.setIfInBounds_toArray, List.set_cons_zero, List.set_cons_succ, i64_w, i32_w]
  rfl
 refine take_ (i := 12) (N := some 17) (v := ?_) (a' := ?_) #[true, true, true, true, true, true, false, true, true, true, true, true, true, false, false, false, false, false] rfl rfl (take_ofW HT_.out HW_.out (by kernel_rfl)) (fun _ _ _ h => h) (Or.inl ⟨by rfl, ?_⟩) hHeld ?_ ?_
 rotate_left
 ·rintro w' ⟨s0, s1, s2, s3⟩
  go_simp
  with_reducible rfl
 rotate_left
 ·simp only [Act.put, List.setIfInBounds_toArray, List.set_cons_zero, List.set_cons_succ, i64_w, i32_w]
  rfl
 refine join_ (σ := Nat × Nat) 2 #[true, true, true, true, true, true, true, true, true, true, true, true, true, true, true, true, false, false] (fun s_ => [(11, .agg #[.int .i64 c8, .int .i64 c9]), (18, .agg #[.int .i64 d0, .int .i64 d1]), (3, .pointer (some ⟨s_.1, 0, none⟩)), (4, .pointer (some ⟨s_.2, 0, none⟩))]) (fun s_ w' => (w'.cell? ⟨a1, 0, none⟩ = some (.int .i64 a0_0) ∧ w'.cell? ⟨a1, 1, none⟩ = some (.int .i64 a0_1) ∧ w'.cell? ⟨a1, 2, none⟩ = some (.int .i64 a0_2) ∧ w'.cell? ⟨a1, 3, none⟩ = some (.int .i64 a0_3)) ∧ (w'.heap[a1]? = some (.cells #[.int .i64 a0_0, .int .i64 a0_1, .int .i64 a0_2, .int .i64 a0_3] 44 (0, 0))) ∧ (w'.heap[a5]? = some (.cells #[.int .i64 0, .int .i64 0, .int .i64 0, .int .i64 0] 44 (0, 0))) ∧ (w'.heap[s_.1]? = some (.cells #[.int .i64 0, .int .i64 0] 23 (0, 0))) ∧ (w'.heap[s_.2]? = some (.cells #[.int .i64 0, .int .i64 0] 23 (0, 0))) ∧ (w.heap.size ≤ s_.1) ∧ (w.heap.size ≤ s_.1) ∧ (a1 ≠ s_.1) ∧ (s_.1 ≠ a1) ∧ (a5 ≠ s_.1) ∧ (s_.1 ≠ a5) ∧ (s_.2 ≠ s_.1) ∧ (s_.1 ≠ s_.2) ∧ (w.heap.size ≤ s_.2) ∧ (w.heap.size ≤ s_.2) ∧ (a1 ≠ s_.2) ∧ (s_.2 ≠ a1) ∧ (a5 ≠ s_.2) ∧ (s_.2 ≠ a5) ∧ (Below w.heap.size w w')) ?_ ?_
 rotate_left
 ·intro e0
  refine join_ (σ := Nat) 3 #[true, true, true, true, true, true, true, true, true, true, true, true, true, true, true, false, false, false] (fun s_ => [(11, .agg #[.int .i64 c8, .int .i64 c9]), (18, .agg #[.int .i64 d0, .int .i64 d1]), (3, .pointer (some ⟨s_, 0, none⟩))]) (fun s_ w' => (w'.cell? ⟨a1, 0, none⟩ = some (.int .i64 a0_0) ∧ w'.cell? ⟨a1, 1, none⟩ = some (.int .i64 a0_1) ∧ w'.cell? ⟨a1, 2, none⟩ = some (.int .i64 a0_2) ∧ w'.cell? ⟨a1, 3, none⟩ = some (.int .i64 a0_3)) ∧ (w'.heap[a1]? = some (.cells #[.int .i64 a0_0, .int .i64 a0_1, .int .i64 a0_2, .int .i64 a0_3] 44 (0, 0))) ∧ (w'.heap[a5]? = some (.cells #[.int .i64 0, .int .i64 0, .int .i64 0, .int .i64 0] 44 (0, 0))) ∧ (w'.heap[s_]? = some (.cells #[.int .i64 0, .int .i64 0] 23 (0, 0))) ∧ (w.heap.size ≤ s_) ∧ (w.heap.size ≤ s_) ∧ (a1 ≠ s_) ∧ (s_ ≠ a1) ∧ (a5 ≠ s_) ∧ (s_ ≠ a5) ∧ (Below w.heap.size w w')) ?_ ?_
  rotate_left
  ·intro g2
   refine join_ (σ := Nat) 3 #[true, true, true, true, true, true, true, true, true, true, true, true, true, true, false, true, false, false] (fun s_ => [(11, .agg #[.int .i64 c8, .int .i64 c9]), (18, .agg #[.int .i64 d0, .int .i64 d1]), (4, .pointer (some ⟨s_, 0, none⟩))]) (fun s_ w' => (w'.cell? ⟨a1, 0, none⟩ = some (.int .i64 a0_0) ∧ w'.cell? ⟨a1, 1, none⟩ = some (.int .i64 a0_1) ∧ w'.cell? ⟨a1, 2, none⟩ = some (.int .i64 a0_2) ∧ w'.cell? ⟨a1, 3, none⟩ = some (.int .i64 a0_3)) ∧ (w'.heap[a1]? = some (.cells #[.int .i64 a0_0, .int .i64 a0_1, .int .i64 a0_2, .int .i64 a0_3] 44 (0, 0))) ∧ (w'.heap[a5]? = some (.cells #[.int .i64 0, .int .i64 0, .int .i64 0, .int .i64 0] 44 (0, 0))) ∧ (w'.heap[s_]? = some (.cells #[.int .i64 0, .int .i64 0] 23 (0, 0))) ∧ (w.heap.size ≤ s_) ∧ (w.heap.size ≤ s_) ∧ (a1 ≠ s_) ∧ (s_ ≠ a1) ∧ (a5 ≠ s_) ∧ (s_ ≠ a5) ∧ (Below w.heap.size w w')) ?_ ?_
   rotate_left
   ·intro g3
    refine join_ (σ := Nat × Nat) 3 #[true, true, true, true, true, true, true, true, true, true, true, true, true, false, true, true, false, false] (fun s_ => [(11, .agg #[.int .i64 c8, .int .i64 c9]), (3, .pointer (some ⟨s_.1, 0, none⟩)), (4, .pointer (some ⟨s_.2, 0, none⟩))]) (fun s_ w' => (w'.cell? ⟨a1, 0, none⟩ = some (.int .i64 a0_0) ∧ w'.cell? ⟨a1, 1, none⟩ = some (.int .i64 a0_1) ∧ w'.cell? ⟨a1, 2, none⟩ = some (.int .i64 a0_2) ∧ w'.cell? ⟨a1, 3, none⟩ = some (.int .i64 a0_3)) ∧ (w'.heap[a1]? = some (.cells #[.int .i64 a0_0, .int .i64 a0_1, .int .i64 a0_2, .int .i64 a0_3] 44 (0, 0))) ∧ (w'.heap[a5]? = some (.cells #[.int .i64 0, .int .i64 0, .int .i64 0, .int .i64 0] 44 (0, 0))) ∧ (w'.heap[s_.1]? = some (.cells #[.int .i64 0, .int .i64 0] 23 (0, 0))) ∧ (w'.heap[s_.2]? = some (.cells #[.int .i64 0, .int .i64 0] 23 (0, 0))) ∧ (w.heap.size ≤ s_.1) ∧ (w.heap.size ≤ s_.1) ∧ (a1 ≠ s_.1) ∧ (s_.1 ≠ a1) ∧ (a5 ≠ s_.1) ∧ (s_.1 ≠ a5) ∧ (s_.2 ≠ s_.1) ∧ (s_.1 ≠ s_.2) ∧ (w.heap.size ≤ s_.2) ∧ (w.heap.size ≤ s_.2) ∧ (a1 ≠ s_.2) ∧ (s_.2 ≠ a1) ∧ (a5 ≠ s_.2) ∧ (s_.2 ≠ a5) ∧ (Below w.heap.size w w')) ?_ ?_
    rotate_left
    ·intro e3
     refine join_ (σ := Unit) 4 #[true, true, true, true, true, true, true, true, true, true, true, true, true, true, false, false, false, false] (fun s_ => [(11, .agg #[.int .i64 c8, .int .i64 c9]), (18, .agg #[.int .i64 d0, .int .i64 d1])]) (fun s_ w' => (w'.cell? ⟨a1, 0, none⟩ = some (.int .i64 a0_0) ∧ w'.cell? ⟨a1, 1, none⟩ = some (.int .i64 a0_1) ∧ w'.cell? ⟨a1, 2, none⟩ = some (.int .i64 a0_2) ∧ w'.cell? ⟨a1, 3, none⟩ = some (.int .i64 a0_3)) ∧ (w'.heap[a1]? = some (.cells #[.int .i64 a0_0, .int .i64 a0_1, .int .i64 a0_2, .int .i64 a0_3] 44 (0, 0))) ∧ (w'.heap[a5]? = some (.cells #[.int .i64 0, .int .i64 0, .int .i64 0, .int .i64 0] 44 (0, 0))) ∧ (Below w.heap.size w w')) ?_ ?_
     rotate_left
     ·intro h5
      refine join_ (σ := Nat) 4 #[true, true, true, true, true, true, true, true, true, true, true, true, true, false, true, false, false, false] (fun s_ => [(11, .agg #[.int .i64 c8, .int .i64 c9]), (3, .pointer (some ⟨s_, 0, none⟩))]) (fun s_ w' => (w'.cell? ⟨a1, 0, none⟩ = some (.int .i64 a0_0) ∧ w'.cell? ⟨a1, 1, none⟩ = some (.int .i64 a0_1) ∧ w'.cell? ⟨a1, 2, none⟩ = some (.int .i64 a0_2) ∧ w'.cell? ⟨a1, 3, none⟩ = some (.int .i64 a0_3)) ∧ (w'.heap[a1]? = some (.cells #[.int .i64 a0_0, .int .i64 a0_1, .int .i64 a0_2, .int .i64 a0_3] 44 (0, 0))) ∧ (w'.heap[a5]? = some (.cells #[.int .i64 0, .int .i64 0, .int .i64 0, .int .i64 0] 44 (0, 0))) ∧ (w'.heap[s_]? = some (.cells #[.int .i64 0, .int .i64 0] 23 (0, 0))) ∧ (w.heap.size ≤ s_) ∧ (w.heap.size ≤ s_) ∧ (a1 ≠ s_) ∧ (s_ ≠ a1) ∧ (a5 ≠ s_) ∧ (s_ ≠ a5) ∧ (Below w.heap.size w w')) ?_ ?_
      rotate_left
      ·intro g5
       refine join_ (σ := Nat) 4 #[true, true, true, true, true, true, true, true, true, true, true, true, true, false, false, true, false, false] (fun s_ => [(11, .agg #[.int .i64 c8, .int .i64 c9]), (4, .pointer (some ⟨s_, 0, none⟩))]) (fun s_ w' => (w'.cell? ⟨a1, 0, none⟩ = some (.int .i64 a0_0) ∧ w'.cell? ⟨a1, 1, none⟩ = some (.int .i64 a0_1) ∧ w'.cell? ⟨a1, 2, none⟩ = some (.int .i64 a0_2) ∧ w'.cell? ⟨a1, 3, none⟩ = some (.int .i64 a0_3)) ∧ (w'.heap[a1]? = some (.cells #[.int .i64 a0_0, .int .i64 a0_1, .int .i64 a0_2, .int .i64 a0_3] 44 (0, 0))) ∧ (w'.heap[a5]? = some (.cells #[.int .i64 0, .int .i64 0, .int .i64 0, .int .i64 0] 44 (0, 0))) ∧ (w'.heap[s_]? = some (.cells #[.int .i64 0, .int .i64 0] 23 (0, 0))) ∧ (w.heap.size ≤ s_) ∧ (w.heap.size ≤ s_) ∧ (a1 ≠ s_) ∧ (s_ ≠ a1) ∧ (a5 ≠ s_) ∧ (s_ ≠ a5) ∧ (Below w.heap.size w w')) ?_ ?_
       rotate_left
       ·intro g6
        refine join_ (σ := Nat × Nat) 4 #[true, true, true, true, true, true, false, true, true, true, true, true, true, false, true, true, false, false] (fun s_ => [(3, .pointer (some ⟨s_.1, 0, none⟩)), (4, .pointer (some ⟨s_.2, 0, none⟩))]) (fun s_ w' => (w'.cell? ⟨a1, 0, none⟩ = some (.int .i64 a0_0) ∧ w'.cell? ⟨a1, 1, none⟩ = some (.int .i64 a0_1) ∧ w'.cell? ⟨a1, 2, none⟩ = some (.int .i64 a0_2) ∧ w'.cell? ⟨a1, 3, none⟩ = some (.int .i64 a0_3)) ∧ (w'.heap[a1]? = some (.cells #[.int .i64 a0_0, .int .i64 a0_1, .int .i64 a0_2, .int .i64 a0_3] 44 (0, 0))) ∧ (w'.heap[a5]? = some (.cells #[.int .i64 0, .int .i64 0, .int .i64 0, .int .i64 0] 44 (0, 0))) ∧ (w'.heap[s_.1]? = some (.cells #[.int .i64 0, .int .i64 0] 23 (0, 0))) ∧ (w'.heap[s_.2]? = some (.cells #[.int .i64 0, .int .i64 0] 23 (0, 0))) ∧ (w.heap.size ≤ s_.1) ∧ (w.heap.size ≤ s_.1) ∧ (a1 ≠ s_.1) ∧ (s_.1 ≠ a1) ∧ (a5 ≠ s_.1) ∧ (s_.1 ≠ a5) ∧ (s_.2 ≠ s_.1) ∧ (s_.1 ≠ s_.2) ∧ (w.heap.size ≤ s_.2) ∧ (w.heap.size ≤ s_.2) ∧ (a1 ≠ s_.2) ∧ (s_.2 ≠ a1) ∧ (a5 ≠ s_.2) ∧ (s_.2 ≠ a5) ∧ (Below w.heap.size w w')) ?_ ?_
        rotate_left
        ·intro g4
         refine join_ (σ := Unit) 5 #[true, true, true, true, true, true, true, true, true, true, true, true, true, false, false, false, false, false] (fun s_ => [(11, .agg #[.int .i64 c8, .int .i64 c9])]) (fun s_ w' => (w'.cell? ⟨a1, 0, none⟩ = some (.int .i64 a0_0) ∧ w'.cell? ⟨a1, 1, none⟩ = some (.int .i64 a0_1) ∧ w'.cell? ⟨a1, 2, none⟩ = some (.int .i64 a0_2) ∧ w'.cell? ⟨a1, 3, none⟩ = some (.int .i64 a0_3)) ∧ (w'.heap[a1]? = some (.cells #[.int .i64 a0_0, .int .i64 a0_1, .int .i64 a0_2, .int .i64 a0_3] 44 (0, 0))) ∧ (w'.heap[a5]? = some (.cells #[.int .i64 0, .int .i64 0, .int .i64 0, .int .i64 0] 44 (0, 0))) ∧ (Below w.heap.size w w')) ?_ ?_
         rotate_left
         ·intro hJ6
          refine join_ (σ := Nat) 5 #[true, true, true, true, true, true, false, true, true, true, true, true, true, false, true, false, false, false] (fun s_ => [(3, .pointer (some ⟨s_, 0, none⟩))]) (fun s_ w' => (w'.cell? ⟨a1, 0, none⟩ = some (.int .i64 a0_0) ∧ w'.cell? ⟨a1, 1, none⟩ = some (.int .i64 a0_1) ∧ w'.cell? ⟨a1, 2, none⟩ = some (.int .i64 a0_2) ∧ w'.cell? ⟨a1, 3, none⟩ = some (.int .i64 a0_3)) ∧ (w'.heap[a1]? = some (.cells #[.int .i64 a0_0, .int .i64 a0_1, .int .i64 a0_2, .int .i64 a0_3] 44 (0, 0))) ∧ (w'.heap[a5]? = some (.cells #[.int .i64 0, .int .i64 0, .int .i64 0, .int .i64 0] 44 (0, 0))) ∧ (w'.heap[s_]? = some (.cells #[.int .i64 0, .int .i64 0] 23 (0, 0))) ∧ (w.heap.size ≤ s_) ∧ (w.heap.size ≤ s_) ∧ (a1 ≠ s_) ∧ (s_ ≠ a1) ∧ (a5 ≠ s_) ∧ (s_ ≠ a5) ∧ (Below w.heap.size w w')) ?_ ?_
          rotate_left
          ·intro h8
           refine join_ (σ := Nat) 5 #[true, true, true, true, true, true, false, true, true, true, true, true, true, false, false, true, false, false] (fun s_ => [(4, .pointer (some ⟨s_, 0, none⟩))]) (fun s_ w' => (w'.cell? ⟨a1, 0, none⟩ = some (.int .i64 a0_0) ∧ w'.cell? ⟨a1, 1, none⟩ = some (.int .i64 a0_1) ∧ w'.cell? ⟨a1, 2, none⟩ = some (.int .i64 a0_2) ∧ w'.cell? ⟨a1, 3, none⟩ = some (.int .i64 a0_3)) ∧ (w'.heap[a1]? = some (.cells #[.int .i64 a0_0, .int .i64 a0_1, .int .i64 a0_2, .int .i64 a0_3] 44 (0, 0))) ∧ (w'.heap[a5]? = some (.cells #[.int .i64 0, .int .i64 0, .int .i64 0, .int .i64 0] 44 (0, 0))) ∧ (w'.heap[s_]? = some (.cells #[.int .i64 0, .int .i64 0] 23 (0, 0))) ∧ (w.heap.size ≤ s_) ∧ (w.heap.size ≤ s_) ∧ (a1 ≠ s_) ∧ (s_ ≠ a1) ∧ (a5 ≠ s_) ∧ (s_ ≠ a5) ∧ (Below w.heap.size w w')) ?_ ?_
           rotate_left
           ·intro h9
            refine three_ (i := 6) (j := 14) (k := 15) (Ni := some 11) (Nj := some 3) (Nk := some 4) #[true, true, true, true, true, true, true, true, true, true, true, true, true, false, false, false, false, false] #[true, true, true, true, true, true, false, true, true, true, true, true, true, false, true, false, false, false] #[true, true, true, true, true, true, false, true, true, true, true, true, true, false, false, true, false, false] rfl rfl rfl rfl rfl rfl (three_of HT_.out (by kernel_rfl)) (by decide) (by decide) (by decide) (fun K hK => ?_) (fun K hK => ?_) (fun K hK => ?_)
            ·skip
             refine goes_ Tryd.func10 (by kernel_rfl) rfl #[.int .i64 a0_0, .int .i64 a0_1] (by rfl) rfl rfl (by (try simp only [List.map_toArray, List.map_cons, List.map_nil]); first | done | rfl | (simp only [List.length_drop, List.length_take]; rfl)) ?_
             with_reducible refine (laws_rgCut.calls a0_0 a0_1 c8 c9 _ A2.out).mono ?_
             rintro e w10 ⟨rfl, hb⟩
             refine ⟨_, rfl, ?_⟩
             have n0_ := aM (bB (g := a1) (o := .cells #[.int .i64 a0_0, .int .i64 a0_1, .int .i64 a0_2, .int .i64 a0_3] 44 (0, 0)) (by (with_reducible repeat (first | refine bN ?_ _ | refine bD ?_ | refine bA ?_ _)); exact a0.out) hb)
             have n1_ := aM (bB (g := a5) (o := .cells #[.int .i64 0, .int .i64 0, .int .i64 0, .int .i64 0] 44 (0, 0)) (by (with_reducible repeat (first | refine bN ?_ _ | refine bD ?_ | refine bA ?_ _)); exact a2.out) hb)
             have n2_ := aM (wP (by repeat (first | (with_reducible first | exact HB.out | apply wA | apply wN | apply wD | refine wS ?_ a8.out | refine wS ?_ a9.out) | exact HB.out)) hb)
             clear a0
             clear a2
             clear HB
             have a0 := n0_
             have a2 := n1_
             have HB := n2_
             clear n0_ n1_ n2_
             (try clear hb)
             (try clear hb2)
             (try clear hk)
             (try clear hi)
             refine hK.out _ _ ⟨(blk_cell a0.out 0).trans rfl, (blk_cell a0.out 1).trans rfl, (blk_cell a0.out 2).trans rfl, (blk_cell a0.out 3).trans rfl⟩ (fun hHeld => ?_)
             clear hK K
             refine norm_ (a' := ?_) ?_ ?_
             rotate_left
             ·show Act.put _ (some 11) _ = _
              simp only [Act.put, List.setIfInBounds_toArray, List.set_cons_zero, List.set_cons_succ, i64_w, i32_w]
              rfl
             exact norm_ (by first | (simp only [putAll, Act.put, List.setIfInBounds_toArray, List.set_cons_zero, List.set_cons_succ]; done) | (simp only [putAll, Act.put, List.setIfInBounds_toArray, List.set_cons_zero, List.set_cons_succ]; rfl)) (hJ6 () _ ⟨hHeld, (by (with_reducible repeat (first | refine bN ?_ _ | refine bD ?_ | refine bA ?_ _)); exact a0.out), (by (with_reducible repeat (first | refine bN ?_ _ | refine bD ?_ | refine bA ?_ _)); exact a2.out), (by repeat (first | (with_reducible first | exact HB.out | apply wA | apply wN | apply wD | refine wS ?_ a8.out | refine wS ?_ a9.out) | exact HB.out))⟩)
            ·skip
             refine box_step ?hg (N := 3) ?hd (cs := #[.int .i64 0, .int .i64 0]) (t := 23) ?hr ?_; (case hd => rfl); (case hg => rfl); (case hr => first | (go_simp; done) | (go_simp; rfl))
             intro a3 hg w10 hbox hb
             have n0_ := aM (bB (g := a1) (o := .cells #[.int .i64 a0_0, .int .i64 a0_1, .int .i64 a0_2, .int .i64 a0_3] 44 (0, 0)) (by (with_reducible repeat (first | refine bN ?_ _ | refine bD ?_ | refine bA ?_ _)); exact a0.out) hb)
             have n1_ := aM (bB (g := a5) (o := .cells #[.int .i64 0, .int .i64 0, .int .i64 0, .int .i64 0] 44 (0, 0)) (by (with_reducible repeat (first | refine bN ?_ _ | refine bD ?_ | refine bA ?_ _)); exact a2.out) hb)
             have n2_ := aM (wP (by repeat (first | (with_reducible first | exact HB.out | apply wA | apply wN | apply wD | refine wS ?_ a8.out | refine wS ?_ a9.out) | exact HB.out)) hb)
             have n3_ := aM (hbox)
             have n4_ := aM ((by rw [hg]; exact (below_size (by repeat (first | (with_reducible first | exact HB.out | apply wA | apply wN | apply wD | refine wS ?_ a8.out | refine wS ?_ a9.out) | exact HB.out))) : w.heap.size ≤ a3))
             have n5_ := aM ((by rw [hg]; exact (below_size (by repeat (first | (with_reducible first | exact HB.out | apply wA | apply wN | apply wD | refine wS ?_ a8.out | refine wS ?_ a9.out) | exact HB.out))) : w.heap.size ≤ a3))
             have n6_ := aM ((by rw [hg]; exact Nat.ne_of_lt (bL (g := a1) (o := .cells #[.int .i64 a0_0, .int .i64 a0_1, .int .i64 a0_2, .int .i64 a0_3] 44 (0, 0)) (by (with_reducible repeat (first | refine bN ?_ _ | refine bD ?_ | refine bA ?_ _)); exact a0.out)) : a1 ≠ a3))
             have n7_ := aM ((by rw [hg]; exact Nat.ne_of_gt (bL (g := a1) (o := .cells #[.int .i64 a0_0, .int .i64 a0_1, .int .i64 a0_2, .int .i64 a0_3] 44 (0, 0)) (by (with_reducible repeat (first | refine bN ?_ _ | refine bD ?_ | refine bA ?_ _)); exact a0.out)) : a3 ≠ a1))
             have n8_ := aM ((by rw [hg]; exact Nat.ne_of_lt (bL (g := a5) (o := .cells #[.int .i64 0, .int .i64 0, .int .i64 0, .int .i64 0] 44 (0, 0)) (by (with_reducible repeat (first | refine bN ?_ _ | refine bD ?_ | refine bA ?_ _)); exact a2.out)) : a5 ≠ a3))
             have n9_ := aM ((by rw [hg]; exact Nat.ne_of_gt (bL (g := a5) (o := .cells #[.int .i64 0, .int .i64 0, .int .i64 0, .int .i64 0] 44 (0, 0)) (by (with_reducible repeat (first | refine bN ?_ _ | refine bD ?_ | refine bA ?_ _)); exact a2.out)) : a3 ≠ a5))
             clear a0
             clear a2
             clear HB
             have a0 := n0_
             have a2 := n1_
             have HB := n2_
             have a6 := n3_
             have d2 := n4_
             have b2 := n5_
             have b0 := n6_
             have b8 := n7_
             have b4 := n8_
             have b6 := n9_
             clear n0_ n1_ n2_ n3_ n4_ n5_ n6_ n7_ n8_ n9_
             clear hb hbox hg
             refine hK.out _ _ ⟨(blk_cell a0.out 0).trans rfl, (blk_cell a0.out 1).trans rfl, (blk_cell a0.out 2).trans rfl, (blk_cell a0.out 3).trans rfl⟩ (fun hHeld => ?_)
             clear hK K
             refine norm_ (a' := ?_) ?_ ?_
             rotate_left
             ·show Act.put _ (some 3) _ = _
              simp only [Act.put, List.setIfInBounds_toArray, List.set_cons_zero, List.set_cons_succ, i64_w, i32_w]
              rfl
             exact norm_ (by first | (simp only [putAll, Act.put, List.setIfInBounds_toArray, List.set_cons_zero, List.set_cons_succ]; done) | (simp only [putAll, Act.put, List.setIfInBounds_toArray, List.set_cons_zero, List.set_cons_succ]; rfl)) (h8 (a3) _ ⟨hHeld, (by (with_reducible repeat (first | refine bN ?_ _ | refine bD ?_ | refine bA ?_ _)); exact a0.out), (by (with_reducible repeat (first | refine bN ?_ _ | refine bD ?_ | refine bA ?_ _)); exact a2.out), (by (with_reducible repeat (first | refine bN ?_ _ | refine bD ?_ | refine bA ?_ _)); exact a6.out), d2.out, b2.out, b0.out, b8.out, b4.out, b6.out, (by repeat (first | (with_reducible first | exact HB.out | apply wA | apply wN | apply wD | refine wS ?_ a8.out | refine wS ?_ a9.out | refine wS ?_ b2.out) | exact HB.out))⟩)
            ·skip
             refine box_step ?hg (N := 4) ?hd (cs := #[.int .i64 0, .int .i64 0]) (t := 23) ?hr ?_; (case hd => rfl); (case hg => rfl); (case hr => first | (go_simp; done) | (go_simp; rfl))
             intro a4 hg w10 hbox hb
             have n0_ := aM (bB (g := a1) (o := .cells #[.int .i64 a0_0, .int .i64 a0_1, .int .i64 a0_2, .int .i64 a0_3] 44 (0, 0)) (by (with_reducible repeat (first | refine bN ?_ _ | refine bD ?_ | refine bA ?_ _)); exact a0.out) hb)
             have n1_ := aM (bB (g := a5) (o := .cells #[.int .i64 0, .int .i64 0, .int .i64 0, .int .i64 0] 44 (0, 0)) (by (with_reducible repeat (first | refine bN ?_ _ | refine bD ?_ | refine bA ?_ _)); exact a2.out) hb)
             have n2_ := aM (wP (by repeat (first | (with_reducible first | exact HB.out | apply wA | apply wN | apply wD | refine wS ?_ a8.out | refine wS ?_ a9.out) | exact HB.out)) hb)
             have n3_ := aM (hbox)
             have n4_ := aM ((by rw [hg]; exact (below_size (by repeat (first | (with_reducible first | exact HB.out | apply wA | apply wN | apply wD | refine wS ?_ a8.out | refine wS ?_ a9.out) | exact HB.out))) : w.heap.size ≤ a4))
             have n5_ := aM ((by rw [hg]; exact (below_size (by repeat (first | (with_reducible first | exact HB.out | apply wA | apply wN | apply wD | refine wS ?_ a8.out | refine wS ?_ a9.out) | exact HB.out))) : w.heap.size ≤ a4))
             have n6_ := aM ((by rw [hg]; exact Nat.ne_of_lt (bL (g := a1) (o := .cells #[.int .i64 a0_0, .int .i64 a0_1, .int .i64 a0_2, .int .i64 a0_3] 44 (0, 0)) (by (with_reducible repeat (first | refine bN ?_ _ | refine bD ?_ | refine bA ?_ _)); exact a0.out)) : a1 ≠ a4))
             have n7_ := aM ((by rw [hg]; exact Nat.ne_of_gt (bL (g := a1) (o := .cells #[.int .i64 a0_0, .int .i64 a0_1, .int .i64 a0_2, .int .i64 a0_3] 44 (0, 0)) (by (with_reducible repeat (first | refine bN ?_ _ | refine bD ?_ | refine bA ?_ _)); exact a0.out)) : a4 ≠ a1))
             have n8_ := aM ((by rw [hg]; exact Nat.ne_of_lt (bL (g := a5) (o := .cells #[.int .i64 0, .int .i64 0, .int .i64 0, .int .i64 0] 44 (0, 0)) (by (with_reducible repeat (first | refine bN ?_ _ | refine bD ?_ | refine bA ?_ _)); exact a2.out)) : a5 ≠ a4))
             have n9_ := aM ((by rw [hg]; exact Nat.ne_of_gt (bL (g := a5) (o := .cells #[.int .i64 0, .int .i64 0, .int .i64 0, .int .i64 0] 44 (0, 0)) (by (with_reducible repeat (first | refine bN ?_ _ | refine bD ?_ | refine bA ?_ _)); exact a2.out)) : a4 ≠ a5))
             clear a0
             clear a2
             clear HB
             have a0 := n0_
             have a2 := n1_
             have HB := n2_
             have a7 := n3_
             have d3 := n4_
             have b3 := n5_
             have b1 := n6_
             have b9 := n7_
             have b5 := n8_
             have b7 := n9_
             clear n0_ n1_ n2_ n3_ n4_ n5_ n6_ n7_ n8_ n9_
             clear hb hbox hg
             refine hK.out _ _ ⟨(blk_cell a0.out 0).trans rfl, (blk_cell a0.out 1).trans rfl, (blk_cell a0.out 2).trans rfl, (blk_cell a0.out 3).trans rfl⟩ (fun hHeld => ?_)
             clear hK K
             refine norm_ (a' := ?_) ?_ ?_
             rotate_left
             ·show Act.put _ (some 4) _ = _
              simp only [Act.put, List.setIfInBounds_toArray, List.set_cons_zero, List.set_cons_succ, i64_w, i32_w]
              rfl
             exact norm_ (by first | (simp only [putAll, Act.put, List.setIfInBounds_toArray, List.set_cons_zero, List.set_cons_succ]; done) | (simp only [putAll, Act.put, List.setIfInBounds_toArray, List.set_cons_zero, List.set_cons_succ]; rfl)) (h9 (a4) _ ⟨hHeld, (by (with_reducible repeat (first | refine bN ?_ _ | refine bD ?_ | refine bA ?_ _)); exact a0.out), (by (with_reducible repeat (first | refine bN ?_ _ | refine bD ?_ | refine bA ?_ _)); exact a2.out), (by (with_reducible repeat (first | refine bN ?_ _ | refine bD ?_ | refine bA ?_ _)); exact a7.out), d3.out, b3.out, b1.out, b9.out, b5.out, b7.out, (by repeat (first | (with_reducible first | exact HB.out | apply wA | apply wN | apply wD | refine wS ?_ a8.out | refine wS ?_ a9.out | refine wS ?_ b3.out) | exact HB.out))⟩)
           ·skip
            rintro a4 w11 ⟨hS_, h0_, h1_, h2_, h3_, h4_, h5_, h6_, h7_, h8_, h9_⟩
            have n0_ : Aside0 (w11.heap[a1]? = some (.cells #[.int .i64 a0_0, .int .i64 a0_1, .int .i64 a0_2, .int .i64 a0_3] 44 (0, 0))) := ⟨h0_⟩
            have n1_ : Aside0 (w11.heap[a5]? = some (.cells #[.int .i64 0, .int .i64 0, .int .i64 0, .int .i64 0] 44 (0, 0))) := ⟨h1_⟩
            have n2_ : Aside0 (w11.heap[a4]? = some (.cells #[.int .i64 0, .int .i64 0] 23 (0, 0))) := ⟨h2_⟩
            have n3_ : Aside0 (w.heap.size ≤ a4) := ⟨h3_⟩
            have n4_ : Aside0 (w.heap.size ≤ a4) := ⟨h4_⟩
            have n5_ : Aside0 (a1 ≠ a4) := ⟨h5_⟩
            have n6_ : Aside0 (a4 ≠ a1) := ⟨h6_⟩
            have n7_ : Aside0 (a5 ≠ a4) := ⟨h7_⟩
            have n8_ : Aside0 (a4 ≠ a5) := ⟨h8_⟩
            have n9_ : Aside0 (Below w.heap.size w w11) := ⟨h9_⟩
            clear a0
            clear a2
            clear HB
            clear h0_ h1_ h2_ h3_ h4_ h5_ h6_ h7_ h8_ h9_
            have a0 := n0_
            have a2 := n1_
            have a7 := n2_
            have d3 := n3_
            have b3 := n4_
            have b1 := n5_
            have b9 := n6_
            have b5 := n7_
            have b7 := n8_
            have HB := n9_
            clear n0_ n1_ n2_ n3_ n4_ n5_ n6_ n7_ n8_ n9_
            have hHeld : w11.cell? ⟨a1, 0, none⟩ = some (.int .i64 a0_0) ∧ w11.cell? ⟨a1, 1, none⟩ = some (.int .i64 a0_1) ∧ w11.cell? ⟨a1, 2, none⟩ = some (.int .i64 a0_2) ∧ w11.cell? ⟨a1, 3, none⟩ = some (.int .i64 a0_3) := hS_
            refine norm_ (a' := ?_) ?_ ?_
            rotate_left
            ·simp only [putAll, Act.put, List.setIfInBounds_toArray, List.set_cons_zero, List.set_cons_succ]
             rfl
            refine two_ (i := 6) (j := 14) (Ni := some 11) (Nj := some 3) #[true, true, true, true, true, true, true, true, true, true, true, true, true, false, false, true, false, false] #[true, true, true, true, true, true, false, true, true, true, true, true, true, false, true, true, false, false] rfl rfl rfl rfl (two_of HT_.out (by kernel_rfl)) (by decide) (by decide) (fun K hK => ?_) (fun K hK => ?_)
            ·skip
             refine goes_ Tryd.func10 (by kernel_rfl) rfl #[.int .i64 a0_0, .int .i64 a0_1] (by rfl) rfl rfl (by (try simp only [List.map_toArray, List.map_cons, List.map_nil]); first | done | rfl | (simp only [List.length_drop, List.length_take]; rfl)) ?_
             with_reducible refine (laws_rgCut.calls a0_0 a0_1 c8 c9 _ A2.out).mono ?_
             rintro e w12 ⟨rfl, hb⟩
             refine ⟨_, rfl, ?_⟩
             have n0_ := aM (bB (g := a1) (o := .cells #[.int .i64 a0_0, .int .i64 a0_1, .int .i64 a0_2, .int .i64 a0_3] 44 (0, 0)) (by (with_reducible repeat (first | refine bN ?_ _ | refine bD ?_ | refine bA ?_ _)); exact a0.out) hb)
             have n1_ := aM (bB (g := a5) (o := .cells #[.int .i64 0, .int .i64 0, .int .i64 0, .int .i64 0] 44 (0, 0)) (by (with_reducible repeat (first | refine bN ?_ _ | refine bD ?_ | refine bA ?_ _)); exact a2.out) hb)
             have n2_ := aM (bB (g := a4) (o := .cells #[.int .i64 0, .int .i64 0] 23 (0, 0)) (by (with_reducible repeat (first | refine bN ?_ _ | refine bD ?_ | refine bA ?_ _)); exact a7.out) hb)
             have n3_ := aM (wP (by repeat (first | (with_reducible first | exact HB.out | apply wA | apply wN | apply wD | refine wS ?_ a8.out | refine wS ?_ a9.out | refine wS ?_ b3.out) | exact HB.out)) hb)
             clear a0
             clear a2
             clear a7
             clear HB
             have a0 := n0_
             have a2 := n1_
             have a7 := n2_
             have HB := n3_
             clear n0_ n1_ n2_ n3_
             (try clear hb)
             (try clear hb2)
             (try clear hk)
             (try clear hi)
             refine hK.out _ _ ⟨(blk_cell a0.out 0).trans rfl, (blk_cell a0.out 1).trans rfl, (blk_cell a0.out 2).trans rfl, (blk_cell a0.out 3).trans rfl⟩ (fun hHeld => ?_)
             clear hK K
             refine norm_ (a' := ?_) ?_ ?_
             rotate_left
             ·show Act.put _ (some 11) _ = _
              simp only [Act.put, List.setIfInBounds_toArray, List.set_cons_zero, List.set_cons_succ, i64_w, i32_w]
              rfl
             exact norm_ (by first | (simp only [putAll, Act.put, List.setIfInBounds_toArray, List.set_cons_zero, List.set_cons_succ]; done) | (simp only [putAll, Act.put, List.setIfInBounds_toArray, List.set_cons_zero, List.set_cons_succ]; rfl)) (g6 (a4) _ ⟨hHeld, (by (with_reducible repeat (first | refine bN ?_ _ | refine bD ?_ | refine bA ?_ _)); exact a0.out), (by (with_reducible repeat (first | refine bN ?_ _ | refine bD ?_ | refine bA ?_ _)); exact a2.out), (by (with_reducible repeat (first | refine bN ?_ _ | refine bD ?_ | refine bA ?_ _)); exact a7.out), d3.out, b3.out, b1.out, b9.out, b5.out, b7.out, (by repeat (first | (with_reducible first | exact HB.out | apply wA | apply wN | apply wD | refine wS ?_ a8.out | refine wS ?_ a9.out | refine wS ?_ b3.out) | exact HB.out))⟩)
            ·skip
             refine box_step ?hg (N := 3) ?hd (cs := #[.int .i64 0, .int .i64 0]) (t := 23) ?hr ?_; (case hd => rfl); (case hg => rfl); (case hr => first | (go_simp; done) | (go_simp; rfl))
             intro a3 hg w12 hbox hb
             have n0_ := aM (bB (g := a1) (o := .cells #[.int .i64 a0_0, .int .i64 a0_1, .int .i64 a0_2, .int .i64 a0_3] 44 (0, 0)) (by (with_reducible repeat (first | refine bN ?_ _ | refine bD ?_ | refine bA ?_ _)); exact a0.out) hb)
             have n1_ := aM (bB (g := a5) (o := .cells #[.int .i64 0, .int .i64 0, .int .i64 0, .int .i64 0] 44 (0, 0)) (by (with_reducible repeat (first | refine bN ?_ _ | refine bD ?_ | refine bA ?_ _)); exact a2.out) hb)
             have n2_ := aM (bB (g := a4) (o := .cells #[.int .i64 0, .int .i64 0] 23 (0, 0)) (by (with_reducible repeat (first | refine bN ?_ _ | refine bD ?_ | refine bA ?_ _)); exact a7.out) hb)
             have n3_ := aM (wP (by repeat (first | (with_reducible first | exact HB.out | apply wA | apply wN | apply wD | refine wS ?_ a8.out | refine wS ?_ a9.out | refine wS ?_ b3.out) | exact HB.out)) hb)
             have n4_ := aM (hbox)
             have n5_ := aM ((by rw [hg]; exact (below_size (by repeat (first | (with_reducible first | exact HB.out | apply wA | apply wN | apply wD | refine wS ?_ a8.out | refine wS ?_ a9.out | refine wS ?_ b3.out) | exact HB.out))) : w.heap.size ≤ a3))
             have n6_ := aM ((by rw [hg]; exact (below_size (by repeat (first | (with_reducible first | exact HB.out | apply wA | apply wN | apply wD | refine wS ?_ a8.out | refine wS ?_ a9.out | refine wS ?_ b3.out) | exact HB.out))) : w.heap.size ≤ a3))
             have n7_ := aM ((by rw [hg]; exact Nat.ne_of_lt (bL (g := a1) (o := .cells #[.int .i64 a0_0, .int .i64 a0_1, .int .i64 a0_2, .int .i64 a0_3] 44 (0, 0)) (by (with_reducible repeat (first | refine bN ?_ _ | refine bD ?_ | refine bA ?_ _)); exact a0.out)) : a1 ≠ a3))
             have n8_ := aM ((by rw [hg]; exact Nat.ne_of_gt (bL (g := a1) (o := .cells #[.int .i64 a0_0, .int .i64 a0_1, .int .i64 a0_2, .int .i64 a0_3] 44 (0, 0)) (by (with_reducible repeat (first | refine bN ?_ _ | refine bD ?_ | refine bA ?_ _)); exact a0.out)) : a3 ≠ a1))
             have n9_ := aM ((by rw [hg]; exact Nat.ne_of_lt (bL (g := a5) (o := .cells #[.int .i64 0, .int .i64 0, .int .i64 0, .int .i64 0] 44 (0, 0)) (by (with_reducible repeat (first | refine bN ?_ _ | refine bD ?_ | refine bA ?_ _)); exact a2.out)) : a5 ≠ a3))
             have d4 := aM ((by rw [hg]; exact Nat.ne_of_gt (bL (g := a5) (o := .cells #[.int .i64 0, .int .i64 0, .int .i64 0, .int .i64 0] 44 (0, 0)) (by (with_reducible repeat (first | refine bN ?_ _ | refine bD ?_ | refine bA ?_ _)); exact a2.out)) : a3 ≠ a5))
             have d5 := aM ((by rw [hg]; exact Nat.ne_of_lt (bL (g := a4) (o := .cells #[.int .i64 0, .int .i64 0] 23 (0, 0)) (by (with_reducible repeat (first | refine bN ?_ _ | refine bD ?_ | refine bA ?_ _)); exact a7.out)) : a4 ≠ a3))
             have d6 := aM ((by rw [hg]; exact Nat.ne_of_gt (bL (g := a4) (o := .cells #[.int .i64 0, .int .i64 0] 23 (0, 0)) (by (with_reducible repeat (first | refine bN ?_ _ | refine bD ?_ | refine bA ?_ _)); exact a7.out)) : a3 ≠ a4))
             clear a0
             clear a2
             clear a7
             clear HB
             have a0 := n0_
             have a2 := n1_
             have a7 := n2_
             have HB := n3_
             have a6 := n4_
             have d2 := n5_
             have b2 := n6_
             have b0 := n7_
             have b8 := n8_
             have b4 := n9_
             have b6 := d4
             have c0 := d5
             have c3 := d6
             clear n0_ n1_ n2_ n3_ n4_ n5_ n6_ n7_ n8_ n9_ d4 d5 d6
             clear hb hbox hg
             refine hK.out _ _ ⟨(blk_cell a0.out 0).trans rfl, (blk_cell a0.out 1).trans rfl, (blk_cell a0.out 2).trans rfl, (blk_cell a0.out 3).trans rfl⟩ (fun hHeld => ?_)
             clear hK K
             refine norm_ (a' := ?_) ?_ ?_
             rotate_left
             ·show Act.put _ (some 3) _ = _
              simp only [Act.put, List.setIfInBounds_toArray, List.set_cons_zero, List.set_cons_succ, i64_w, i32_w]
              rfl
             exact norm_ (by first | (simp only [putAll, Act.put, List.setIfInBounds_toArray, List.set_cons_zero, List.set_cons_succ]; done) | (simp only [putAll, Act.put, List.setIfInBounds_toArray, List.set_cons_zero, List.set_cons_succ]; rfl)) (g4 (a3, a4) _ ⟨hHeld, (by (with_reducible repeat (first | refine bN ?_ _ | refine bD ?_ | refine bA ?_ _)); exact a0.out), (by (with_reducible repeat (first | refine bN ?_ _ | refine bD ?_ | refine bA ?_ _)); exact a2.out), (by (with_reducible repeat (first | refine bN ?_ _ | refine bD ?_ | refine bA ?_ _)); exact a6.out), (by (with_reducible repeat (first | refine bN ?_ _ | refine bD ?_ | refine bA ?_ _)); exact a7.out), d2.out, b2.out, b0.out, b8.out, b4.out, b6.out, c0.out, c3.out, d3.out, b3.out, b1.out, b9.out, b5.out, b7.out, (by repeat (first | (with_reducible first | exact HB.out | apply wA | apply wN | apply wD | refine wS ?_ a8.out | refine wS ?_ a9.out | refine wS ?_ b3.out | refine wS ?_ b2.out) | exact HB.out))⟩)
          ·skip
           rintro a3 w11 ⟨hS_, h0_, h1_, h2_, h3_, h4_, h5_, h6_, h7_, h8_, h9_⟩
           have n0_ : Aside0 (w11.heap[a1]? = some (.cells #[.int .i64 a0_0, .int .i64 a0_1, .int .i64 a0_2, .int .i64 a0_3] 44 (0, 0))) := ⟨h0_⟩
           have n1_ : Aside0 (w11.heap[a5]? = some (.cells #[.int .i64 0, .int .i64 0, .int .i64 0, .int .i64 0] 44 (0, 0))) := ⟨h1_⟩
           have n2_ : Aside0 (w11.heap[a3]? = some (.cells #[.int .i64 0, .int .i64 0] 23 (0, 0))) := ⟨h2_⟩
           have n3_ : Aside0 (w.heap.size ≤ a3) := ⟨h3_⟩
           have n4_ : Aside0 (w.heap.size ≤ a3) := ⟨h4_⟩
           have n5_ : Aside0 (a1 ≠ a3) := ⟨h5_⟩
           have n6_ : Aside0 (a3 ≠ a1) := ⟨h6_⟩
           have n7_ : Aside0 (a5 ≠ a3) := ⟨h7_⟩
           have n8_ : Aside0 (a3 ≠ a5) := ⟨h8_⟩
           have n9_ : Aside0 (Below w.heap.size w w11) := ⟨h9_⟩
           clear a0
           clear a2
           clear HB
           clear h0_ h1_ h2_ h3_ h4_ h5_ h6_ h7_ h8_ h9_
           have a0 := n0_
           have a2 := n1_
           have a6 := n2_
           have d2 := n3_
           have b2 := n4_
           have b0 := n5_
           have b8 := n6_
           have b4 := n7_
           have b6 := n8_
           have HB := n9_
           clear n0_ n1_ n2_ n3_ n4_ n5_ n6_ n7_ n8_ n9_
           have hHeld : w11.cell? ⟨a1, 0, none⟩ = some (.int .i64 a0_0) ∧ w11.cell? ⟨a1, 1, none⟩ = some (.int .i64 a0_1) ∧ w11.cell? ⟨a1, 2, none⟩ = some (.int .i64 a0_2) ∧ w11.cell? ⟨a1, 3, none⟩ = some (.int .i64 a0_3) := hS_
           refine norm_ (a' := ?_) ?_ ?_
           rotate_left
           ·simp only [putAll, Act.put, List.setIfInBounds_toArray, List.set_cons_zero, List.set_cons_succ]
            rfl
           refine two_ (i := 6) (j := 15) (Ni := some 11) (Nj := some 4) #[true, true, true, true, true, true, true, true, true, true, true, true, true, false, true, false, false, false] #[true, true, true, true, true, true, false, true, true, true, true, true, true, false, true, true, false, false] rfl rfl rfl rfl (two_of HT_.out (by kernel_rfl)) (by decide) (by decide) (fun K hK => ?_) (fun K hK => ?_)
           ·skip
            refine goes_ Tryd.func10 (by kernel_rfl) rfl #[.int .i64 a0_0, .int .i64 a0_1] (by rfl) rfl rfl (by (try simp only [List.map_toArray, List.map_cons, List.map_nil]); first | done | rfl | (simp only [List.length_drop, List.length_take]; rfl)) ?_
            with_reducible refine (laws_rgCut.calls a0_0 a0_1 c8 c9 _ A2.out).mono ?_
            rintro e w12 ⟨rfl, hb⟩
            refine ⟨_, rfl, ?_⟩
            have n0_ := aM (bB (g := a1) (o := .cells #[.int .i64 a0_0, .int .i64 a0_1, .int .i64 a0_2, .int .i64 a0_3] 44 (0, 0)) (by (with_reducible repeat (first | refine bN ?_ _ | refine bD ?_ | refine bA ?_ _)); exact a0.out) hb)
            have n1_ := aM (bB (g := a5) (o := .cells #[.int .i64 0, .int .i64 0, .int .i64 0, .int .i64 0] 44 (0, 0)) (by (with_reducible repeat (first | refine bN ?_ _ | refine bD ?_ | refine bA ?_ _)); exact a2.out) hb)
            have n2_ := aM (bB (g := a3) (o := .cells #[.int .i64 0, .int .i64 0] 23 (0, 0)) (by (with_reducible repeat (first | refine bN ?_ _ | refine bD ?_ | refine bA ?_ _)); exact a6.out) hb)
            have n3_ := aM (wP (by repeat (first | (with_reducible first | exact HB.out | apply wA | apply wN | apply wD | refine wS ?_ a8.out | refine wS ?_ a9.out | refine wS ?_ b2.out) | exact HB.out)) hb)
            clear a0
            clear a2
            clear a6
            clear HB
            have a0 := n0_
            have a2 := n1_
            have a6 := n2_
            have HB := n3_
            clear n0_ n1_ n2_ n3_
            (try clear hb)
            (try clear hb2)
            (try clear hk)
            (try clear hi)
            refine hK.out _ _ ⟨(blk_cell a0.out 0).trans rfl, (blk_cell a0.out 1).trans rfl, (blk_cell a0.out 2).trans rfl, (blk_cell a0.out 3).trans rfl⟩ (fun hHeld => ?_)
            clear hK K
            refine norm_ (a' := ?_) ?_ ?_
            rotate_left
            ·show Act.put _ (some 11) _ = _
             simp only [Act.put, List.setIfInBounds_toArray, List.set_cons_zero, List.set_cons_succ, i64_w, i32_w]
             rfl
            exact norm_ (by first | (simp only [putAll, Act.put, List.setIfInBounds_toArray, List.set_cons_zero, List.set_cons_succ]; done) | (simp only [putAll, Act.put, List.setIfInBounds_toArray, List.set_cons_zero, List.set_cons_succ]; rfl)) (g5 (a3) _ ⟨hHeld, (by (with_reducible repeat (first | refine bN ?_ _ | refine bD ?_ | refine bA ?_ _)); exact a0.out), (by (with_reducible repeat (first | refine bN ?_ _ | refine bD ?_ | refine bA ?_ _)); exact a2.out), (by (with_reducible repeat (first | refine bN ?_ _ | refine bD ?_ | refine bA ?_ _)); exact a6.out), d2.out, b2.out, b0.out, b8.out, b4.out, b6.out, (by repeat (first | (with_reducible first | exact HB.out | apply wA | apply wN | apply wD | refine wS ?_ a8.out | refine wS ?_ a9.out | refine wS ?_ b2.out) | exact HB.out))⟩)
           ·skip
            refine box_step ?hg (N := 4) ?hd (cs := #[.int .i64 0, .int .i64 0]) (t := 23) ?hr ?_; (case hd => rfl); (case hg => rfl); (case hr => first | (go_simp; done) | (go_simp; rfl))
            intro a4 hg w12 hbox hb
            have n0_ := aM (bB (g := a1) (o := .cells #[.int .i64 a0_0, .int .i64 a0_1, .int .i64 a0_2, .int .i64 a0_3] 44 (0, 0)) (by (with_reducible repeat (first | refine bN ?_ _ | refine bD ?_ | refine bA ?_ _)); exact a0.out) hb)
            have n1_ := aM (bB (g := a5) (o := .cells #[.int .i64 0, .int .i64 0, .int .i64 0, .int .i64 0] 44 (0, 0)) (by (with_reducible repeat (first | refine bN ?_ _ | refine bD ?_ | refine bA ?_ _)); exact a2.out) hb)
            have n2_ := aM (bB (g := a3) (o := .cells #[.int .i64 0, .int .i64 0] 23 (0, 0)) (by (with_reducible repeat (first | refine bN ?_ _ | refine bD ?_ | refine bA ?_ _)); exact a6.out) hb)
            have n3_ := aM (wP (by repeat (first | (with_reducible first | exact HB.out | apply wA | apply wN | apply wD | refine wS ?_ a8.out | refine wS ?_ a9.out | refine wS ?_ b2.out) | exact HB.out)) hb)
            have n4_ := aM (hbox)
            have n5_ := aM ((by rw [hg]; exact (below_size (by repeat (first | (with_reducible first | exact HB.out | apply wA | apply wN | apply wD | refine wS ?_ a8.out | refine wS ?_ a9.out | refine wS ?_ b2.out) | exact HB.out))) : w.heap.size ≤ a4))
            have n6_ := aM ((by rw [hg]; exact (below_size (by repeat (first | (with_reducible first | exact HB.out | apply wA | apply wN | apply wD | refine wS ?_ a8.out | refine wS ?_ a9.out | refine wS ?_ b2.out) | exact HB.out))) : w.heap.size ≤ a4))
            have n7_ := aM ((by rw [hg]; exact Nat.ne_of_lt (bL (g := a1) (o := .cells #[.int .i64 a0_0, .int .i64 a0_1, .int .i64 a0_2, .int .i64 a0_3] 44 (0, 0)) (by (with_reducible repeat (first | refine bN ?_ _ | refine bD ?_ | refine bA ?_ _)); exact a0.out)) : a1 ≠ a4))
            have n8_ := aM ((by rw [hg]; exact Nat.ne_of_gt (bL (g := a1) (o := .cells #[.int .i64 a0_0, .int .i64 a0_1, .int .i64 a0_2, .int .i64 a0_3] 44 (0, 0)) (by (with_reducible repeat (first | refine bN ?_ _ | refine bD ?_ | refine bA ?_ _)); exact a0.out)) : a4 ≠ a1))
            have n9_ := aM ((by rw [hg]; exact Nat.ne_of_lt (bL (g := a5) (o := .cells #[.int .i64 0, .int .i64 0, .int .i64 0, .int .i64 0] 44 (0, 0)) (by (with_reducible repeat (first | refine bN ?_ _ | refine bD ?_ | refine bA ?_ _)); exact a2.out)) : a5 ≠ a4))
            have d4 := aM ((by rw [hg]; exact Nat.ne_of_gt (bL (g := a5) (o := .cells #[.int .i64 0, .int .i64 0, .int .i64 0, .int .i64 0] 44 (0, 0)) (by (with_reducible repeat (first | refine bN ?_ _ | refine bD ?_ | refine bA ?_ _)); exact a2.out)) : a4 ≠ a5))
            have d5 := aM ((by rw [hg]; exact Nat.ne_of_lt (bL (g := a3) (o := .cells #[.int .i64 0, .int .i64 0] 23 (0, 0)) (by (with_reducible repeat (first | refine bN ?_ _ | refine bD ?_ | refine bA ?_ _)); exact a6.out)) : a3 ≠ a4))
            have d6 := aM ((by rw [hg]; exact Nat.ne_of_gt (bL (g := a3) (o := .cells #[.int .i64 0, .int .i64 0] 23 (0, 0)) (by (with_reducible repeat (first | refine bN ?_ _ | refine bD ?_ | refine bA ?_ _)); exact a6.out)) : a4 ≠ a3))
            clear a0
            clear a2
            clear a6
            clear HB
            have a0 := n0_
            have a2 := n1_
            have a6 := n2_
            have HB := n3_
            have a7 := n4_
            have d3 := n5_
            have b3 := n6_
            have b1 := n7_
            have b9 := n8_
            have b5 := n9_
            have b7 := d4
            have c3 := d5
            have c0 := d6
            clear n0_ n1_ n2_ n3_ n4_ n5_ n6_ n7_ n8_ n9_ d4 d5 d6
            clear hb hbox hg
            refine hK.out _ _ ⟨(blk_cell a0.out 0).trans rfl, (blk_cell a0.out 1).trans rfl, (blk_cell a0.out 2).trans rfl, (blk_cell a0.out 3).trans rfl⟩ (fun hHeld => ?_)
            clear hK K
            refine norm_ (a' := ?_) ?_ ?_
            rotate_left
            ·show Act.put _ (some 4) _ = _
             simp only [Act.put, List.setIfInBounds_toArray, List.set_cons_zero, List.set_cons_succ, i64_w, i32_w]
             rfl
            exact norm_ (by first | (simp only [putAll, Act.put, List.setIfInBounds_toArray, List.set_cons_zero, List.set_cons_succ]; done) | (simp only [putAll, Act.put, List.setIfInBounds_toArray, List.set_cons_zero, List.set_cons_succ]; rfl)) (g4 (a3, a4) _ ⟨hHeld, (by (with_reducible repeat (first | refine bN ?_ _ | refine bD ?_ | refine bA ?_ _)); exact a0.out), (by (with_reducible repeat (first | refine bN ?_ _ | refine bD ?_ | refine bA ?_ _)); exact a2.out), (by (with_reducible repeat (first | refine bN ?_ _ | refine bD ?_ | refine bA ?_ _)); exact a6.out), (by (with_reducible repeat (first | refine bN ?_ _ | refine bD ?_ | refine bA ?_ _)); exact a7.out), d2.out, b2.out, b0.out, b8.out, b4.out, b6.out, c0.out, c3.out, d3.out, b3.out, b1.out, b9.out, b5.out, b7.out, (by repeat (first | (with_reducible first | exact HB.out | apply wA | apply wN | apply wD | refine wS ?_ a8.out | refine wS ?_ a9.out | refine wS ?_ b2.out | refine wS ?_ b3.out) | exact HB.out))⟩)
         ·skip
          rintro _ w11 ⟨hS_, h0_, h1_, h2_⟩
          have n0_ : Aside0 (w11.heap[a1]? = some (.cells #[.int .i64 a0_0, .int .i64 a0_1, .int .i64 a0_2, .int .i64 a0_3] 44 (0, 0))) := ⟨h0_⟩
          have n1_ : Aside0 (w11.heap[a5]? = some (.cells #[.int .i64 0, .int .i64 0, .int .i64 0, .int .i64 0] 44 (0, 0))) := ⟨h1_⟩
          have n2_ : Aside0 (Below w.heap.size w w11) := ⟨h2_⟩
          clear a0
          clear a2
          clear HB
          clear h0_ h1_ h2_
          have a0 := n0_
          have a2 := n1_
          have HB := n2_
          clear n0_ n1_ n2_
          have hHeld : w11.cell? ⟨a1, 0, none⟩ = some (.int .i64 a0_0) ∧ w11.cell? ⟨a1, 1, none⟩ = some (.int .i64 a0_1) ∧ w11.cell? ⟨a1, 2, none⟩ = some (.int .i64 a0_2) ∧ w11.cell? ⟨a1, 3, none⟩ = some (.int .i64 a0_3) := hS_
          refine norm_ (a' := ?_) ?_ ?_
          rotate_left
          ·simp only [putAll, Act.put, List.setIfInBounds_toArray, List.set_cons_zero, List.set_cons_succ]
           rfl
          refine three_ (i := 13) (j := 14) (k := 15) (Ni := some 18) (Nj := some 3) (Nk := some 4) #[true, true, true, true, true, true, true, true, true, true, true, true, true, true, false, false, false, false] #[true, true, true, true, true, true, true, true, true, true, true, true, true, false, true, false, false, false] #[true, true, true, true, true, true, true, true, true, true, true, true, true, false, false, true, false, false] rfl rfl rfl rfl rfl rfl (three_of HT_.out (by kernel_rfl)) (by decide) (by decide) (by decide) (fun K hK => ?_) (fun K hK => ?_) (fun K hK => ?_)
          ·skip
           refine goes_ Tryd.func10 (by kernel_rfl) rfl #[.int .i64 a0_2, .int .i64 a0_3] (by rfl) rfl rfl (by (try simp only [List.map_toArray, List.map_cons, List.map_nil]); first | done | rfl | (simp only [List.length_drop, List.length_take]; rfl)) ?_
           with_reducible refine (laws_rgCut.calls a0_2 a0_3 d0 d1 _ A3.out).mono ?_
           rintro e w12 ⟨rfl, hb⟩
           refine ⟨_, rfl, ?_⟩
           have n0_ := aM (bB (g := a1) (o := .cells #[.int .i64 a0_0, .int .i64 a0_1, .int .i64 a0_2, .int .i64 a0_3] 44 (0, 0)) (by (with_reducible repeat (first | refine bN ?_ _ | refine bD ?_ | refine bA ?_ _)); exact a0.out) hb)
           have n1_ := aM (bB (g := a5) (o := .cells #[.int .i64 0, .int .i64 0, .int .i64 0, .int .i64 0] 44 (0, 0)) (by (with_reducible repeat (first | refine bN ?_ _ | refine bD ?_ | refine bA ?_ _)); exact a2.out) hb)
           have n2_ := aM (wP (by repeat (first | (with_reducible first | exact HB.out | apply wA | apply wN | apply wD | refine wS ?_ a8.out | refine wS ?_ a9.out) | exact HB.out)) hb)
           clear a0
           clear a2
           clear HB
           have a0 := n0_
           have a2 := n1_
           have HB := n2_
           clear n0_ n1_ n2_
           (try clear hb)
           (try clear hb2)
           (try clear hk)
           (try clear hi)
           refine hK.out _ _ ⟨(blk_cell a0.out 0).trans rfl, (blk_cell a0.out 1).trans rfl, (blk_cell a0.out 2).trans rfl, (blk_cell a0.out 3).trans rfl⟩ (fun hHeld => ?_)
           clear hK K
           refine norm_ (a' := ?_) ?_ ?_
           rotate_left
           ·show Act.put _ (some 18) _ = _
            simp only [Act.put, List.setIfInBounds_toArray, List.set_cons_zero, List.set_cons_succ, i64_w, i32_w]
            rfl
           exact norm_ (by first | (simp only [putAll, Act.put, List.setIfInBounds_toArray, List.set_cons_zero, List.set_cons_succ]; done) | (simp only [putAll, Act.put, List.setIfInBounds_toArray, List.set_cons_zero, List.set_cons_succ]; rfl)) (h5 () _ ⟨hHeld, (by (with_reducible repeat (first | refine bN ?_ _ | refine bD ?_ | refine bA ?_ _)); exact a0.out), (by (with_reducible repeat (first | refine bN ?_ _ | refine bD ?_ | refine bA ?_ _)); exact a2.out), (by repeat (first | (with_reducible first | exact HB.out | apply wA | apply wN | apply wD | refine wS ?_ a8.out | refine wS ?_ a9.out) | exact HB.out))⟩)
          ·skip
           refine box_step ?hg (N := 3) ?hd (cs := #[.int .i64 0, .int .i64 0]) (t := 23) ?hr ?_; (case hd => rfl); (case hg => rfl); (case hr => first | (go_simp; done) | (go_simp; rfl))
           intro a3 hg w12 hbox hb
           have n0_ := aM (bB (g := a1) (o := .cells #[.int .i64 a0_0, .int .i64 a0_1, .int .i64 a0_2, .int .i64 a0_3] 44 (0, 0)) (by (with_reducible repeat (first | refine bN ?_ _ | refine bD ?_ | refine bA ?_ _)); exact a0.out) hb)
           have n1_ := aM (bB (g := a5) (o := .cells #[.int .i64 0, .int .i64 0, .int .i64 0, .int .i64 0] 44 (0, 0)) (by (with_reducible repeat (first | refine bN ?_ _ | refine bD ?_ | refine bA ?_ _)); exact a2.out) hb)
           have n2_ := aM (wP (by repeat (first | (with_reducible first | exact HB.out | apply wA | apply wN | apply wD | refine wS ?_ a8.out | refine wS ?_ a9.out) | exact HB.out)) hb)
           have n3_ := aM (hbox)
           have n4_ := aM ((by rw [hg]; exact (below_size (by repeat (first | (with_reducible first | exact HB.out | apply wA | apply wN | apply wD | refine wS ?_ a8.out | refine wS ?_ a9.out) | exact HB.out))) : w.heap.size ≤ a3))
           have n5_ := aM ((by rw [hg]; exact (below_size (by repeat (first | (with_reducible first | exact HB.out | apply wA | apply wN | apply wD | refine wS ?_ a8.out | refine wS ?_ a9.out) | exact HB.out))) : w.heap.size ≤ a3))
           have n6_ := aM ((by rw [hg]; exact Nat.ne_of_lt (bL (g := a1) (o := .cells #[.int .i64 a0_0, .int .i64 a0_1, .int .i64 a0_2, .int .i64 a0_3] 44 (0, 0)) (by (with_reducible repeat (first | refine bN ?_ _ | refine bD ?_ | refine bA ?_ _)); exact a0.out)) : a1 ≠ a3))
           have n7_ := aM ((by rw [hg]; exact Nat.ne_of_gt (bL (g := a1) (o := .cells #[.int .i64 a0_0, .int .i64 a0_1, .int .i64 a0_2, .int .i64 a0_3] 44 (0, 0)) (by (with_reducible repeat (first | refine bN ?_ _ | refine bD ?_ | refine bA ?_ _)); exact a0.out)) : a3 ≠ a1))
           have n8_ := aM ((by rw [hg]; exact Nat.ne_of_lt (bL (g := a5) (o := .cells #[.int .i64 0, .int .i64 0, .int .i64 0, .int .i64 0] 44 (0, 0)) (by (with_reducible repeat (first | refine bN ?_ _ | refine bD ?_ | refine bA ?_ _)); exact a2.out)) : a5 ≠ a3))
           have n9_ := aM ((by rw [hg]; exact Nat.ne_of_gt (bL (g := a5) (o := .cells #[.int .i64 0, .int .i64 0, .int .i64 0, .int .i64 0] 44 (0, 0)) (by (with_reducible repeat (first | refine bN ?_ _ | refine bD ?_ | refine bA ?_ _)); exact a2.out)) : a3 ≠ a5))
           clear a0
           clear a2
           clear HB
           have a0 := n0_
           have a2 := n1_
           have HB := n2_
           have a6 := n3_
           have d2 := n4_
           have b2 := n5_
           have b0 := n6_
           have b8 := n7_
           have b4 := n8_
           have b6 := n9_
           clear n0_ n1_ n2_ n3_ n4_ n5_ n6_ n7_ n8_ n9_
           clear hb hbox hg
           refine hK.out _ _ ⟨(blk_cell a0.out 0).trans rfl, (blk_cell a0.out 1).trans rfl, (blk_cell a0.out 2).trans rfl, (blk_cell a0.out 3).trans rfl⟩ (fun hHeld => ?_)
           clear hK K
           refine norm_ (a' := ?_) ?_ ?_
           rotate_left
           ·show Act.put _ (some 3) _ = _
            simp only [Act.put, List.setIfInBounds_toArray, List.set_cons_zero, List.set_cons_succ, i64_w, i32_w]
            rfl
           exact norm_ (by first | (simp only [putAll, Act.put, List.setIfInBounds_toArray, List.set_cons_zero, List.set_cons_succ]; done) | (simp only [putAll, Act.put, List.setIfInBounds_toArray, List.set_cons_zero, List.set_cons_succ]; rfl)) (g5 (a3) _ ⟨hHeld, (by (with_reducible repeat (first | refine bN ?_ _ | refine bD ?_ | refine bA ?_ _)); exact a0.out), (by (with_reducible repeat (first | refine bN ?_ _ | refine bD ?_ | refine bA ?_ _)); exact a2.out), (by (with_reducible repeat (first | refine bN ?_ _ | refine bD ?_ | refine bA ?_ _)); exact a6.out), d2.out, b2.out, b0.out, b8.out, b4.out, b6.out, (by repeat (first | (with_reducible first | exact HB.out | apply wA | apply wN | apply wD | refine wS ?_ a8.out | refine wS ?_ a9.out | refine wS ?_ b2.out) | exact HB.out))⟩)
          ·skip
           refine box_step ?hg (N := 4) ?hd (cs := #[.int .i64 0, .int .i64 0]) (t := 23) ?hr ?_; (case hd => rfl); (case hg => rfl); (case hr => first | (go_simp; done) | (go_simp; rfl))
           intro a4 hg w12 hbox hb
           have n0_ := aM (bB (g := a1) (o := .cells #[.int .i64 a0_0, .int .i64 a0_1, .int .i64 a0_2, .int .i64 a0_3] 44 (0, 0)) (by (with_reducible repeat (first | refine bN ?_ _ | refine bD ?_ | refine bA ?_ _)); exact a0.out) hb)
           have n1_ := aM (bB (g := a5) (o := .cells #[.int .i64 0, .int .i64 0, .int .i64 0, .int .i64 0] 44 (0, 0)) (by (with_reducible repeat (first | refine bN ?_ _ | refine bD ?_ | refine bA ?_ _)); exact a2.out) hb)
           have n2_ := aM (wP (by repeat (first | (with_reducible first | exact HB.out | apply wA | apply wN | apply wD | refine wS ?_ a8.out | refine wS ?_ a9.out) | exact HB.out)) hb)
           have n3_ := aM (hbox)
           have n4_ := aM ((by rw [hg]; exact (below_size (by repeat (first | (with_reducible first | exact HB.out | apply wA | apply wN | apply wD | refine wS ?_ a8.out | refine wS ?_ a9.out) | exact HB.out))) : w.heap.size ≤ a4))
           have n5_ := aM ((by rw [hg]; exact (below_size (by repeat (first | (with_reducible first | exact HB.out | apply wA | apply wN | apply wD | refine wS ?_ a8.out | refine wS ?_ a9.out) | exact HB.out))) : w.heap.size ≤ a4))
           have n6_ := aM ((by rw [hg]; exact Nat.ne_of_lt (bL (g := a1) (o := .cells #[.int .i64 a0_0, .int .i64 a0_1, .int .i64 a0_2, .int .i64 a0_3] 44 (0, 0)) (by (with_reducible repeat (first | refine bN ?_ _ | refine bD ?_ | refine bA ?_ _)); exact a0.out)) : a1 ≠ a4))
           have n7_ := aM ((by rw [hg]; exact Nat.ne_of_gt (bL (g := a1) (o := .cells #[.int .i64 a0_0, .int .i64 a0_1, .int .i64 a0_2, .int .i64 a0_3] 44 (0, 0)) (by (with_reducible repeat (first | refine bN ?_ _ | refine bD ?_ | refine bA ?_ _)); exact a0.out)) : a4 ≠ a1))
           have n8_ := aM ((by rw [hg]; exact Nat.ne_of_lt (bL (g := a5) (o := .cells #[.int .i64 0, .int .i64 0, .int .i64 0, .int .i64 0] 44 (0, 0)) (by (with_reducible repeat (first | refine bN ?_ _ | refine bD ?_ | refine bA ?_ _)); exact a2.out)) : a5 ≠ a4))
           have n9_ := aM ((by rw [hg]; exact Nat.ne_of_gt (bL (g := a5) (o := .cells #[.int .i64 0, .int .i64 0, .int .i64 0, .int .i64 0] 44 (0, 0)) (by (with_reducible repeat (first | refine bN ?_ _ | refine bD ?_ | refine bA ?_ _)); exact a2.out)) : a4 ≠ a5))
           clear a0
           clear a2
           clear HB
           have a0 := n0_
           have a2 := n1_
           have HB := n2_
           have a7 := n3_
           have d3 := n4_
           have b3 := n5_
           have b1 := n6_
           have b9 := n7_
           have b5 := n8_
           have b7 := n9_
           clear n0_ n1_ n2_ n3_ n4_ n5_ n6_ n7_ n8_ n9_
           clear hb hbox hg
           refine hK.out _ _ ⟨(blk_cell a0.out 0).trans rfl, (blk_cell a0.out 1).trans rfl, (blk_cell a0.out 2).trans rfl, (blk_cell a0.out 3).trans rfl⟩ (fun hHeld => ?_)
           clear hK K
           refine norm_ (a' := ?_) ?_ ?_
           rotate_left
           ·show Act.put _ (some 4) _ = _
            simp only [Act.put, List.setIfInBounds_toArray, List.set_cons_zero, List.set_cons_succ, i64_w, i32_w]
            rfl
           exact norm_ (by first | (simp only [putAll, Act.put, List.setIfInBounds_toArray, List.set_cons_zero, List.set_cons_succ]; done) | (simp only [putAll, Act.put, List.setIfInBounds_toArray, List.set_cons_zero, List.set_cons_succ]; rfl)) (g6 (a4) _ ⟨hHeld, (by (with_reducible repeat (first | refine bN ?_ _ | refine bD ?_ | refine bA ?_ _)); exact a0.out), (by (with_reducible repeat (first | refine bN ?_ _ | refine bD ?_ | refine bA ?_ _)); exact a2.out), (by (with_reducible repeat (first | refine bN ?_ _ | refine bD ?_ | refine bA ?_ _)); exact a7.out), d3.out, b3.out, b1.out, b9.out, b5.out, b7.out, (by repeat (first | (with_reducible first | exact HB.out | apply wA | apply wN | apply wD | refine wS ?_ a8.out | refine wS ?_ a9.out | refine wS ?_ b3.out) | exact HB.out))⟩)
        ·skip
         rintro ⟨a3, a4⟩ w12 ⟨hS_, h0_, h1_, h2_, h3_, h4_, h5_, h6_, h7_, h8_, h9_, e4, e5, e6, e7, e8, e9, f0, f1, f2⟩
         have n0_ : Aside0 (w12.heap[a1]? = some (.cells #[.int .i64 a0_0, .int .i64 a0_1, .int .i64 a0_2, .int .i64 a0_3] 44 (0, 0))) := ⟨h0_⟩
         have n1_ : Aside0 (w12.heap[a5]? = some (.cells #[.int .i64 0, .int .i64 0, .int .i64 0, .int .i64 0] 44 (0, 0))) := ⟨h1_⟩
         have n2_ : Aside0 (w12.heap[a3]? = some (.cells #[.int .i64 0, .int .i64 0] 23 (0, 0))) := ⟨h2_⟩
         have n3_ : Aside0 (w12.heap[a4]? = some (.cells #[.int .i64 0, .int .i64 0] 23 (0, 0))) := ⟨h3_⟩
         have n4_ : Aside0 (w.heap.size ≤ a3) := ⟨h4_⟩
         have n5_ : Aside0 (w.heap.size ≤ a3) := ⟨h5_⟩
         have n6_ : Aside0 (a1 ≠ a3) := ⟨h6_⟩
         have n7_ : Aside0 (a3 ≠ a1) := ⟨h7_⟩
         have n8_ : Aside0 (a5 ≠ a3) := ⟨h8_⟩
         have n9_ : Aside0 (a3 ≠ a5) := ⟨h9_⟩
         have d4 : Aside0 (a4 ≠ a3) := ⟨e4⟩
         have d5 : Aside0 (a3 ≠ a4) := ⟨e5⟩
         have d6 : Aside0 (w.heap.size ≤ a4) := ⟨e6⟩
         have f3 : Aside0 (w.heap.size ≤ a4) := ⟨e7⟩
         have f4 : Aside0 (a1 ≠ a4) := ⟨e8⟩
         have f5 : Aside0 (a4 ≠ a1) := ⟨e9⟩
         have f6 : Aside0 (a5 ≠ a4) := ⟨f0⟩
         have f7 : Aside0 (a4 ≠ a5) := ⟨f1⟩
         have f8 : Aside0 (Below w.heap.size w w12) := ⟨f2⟩
         clear a0
         clear a2
         clear HB
         clear h0_ h1_ h2_ h3_ h4_ h5_ h6_ h7_ h8_ h9_ e4 e5 e6 e7 e8 e9 f0 f1 f2
         have a0 := n0_
         have a2 := n1_
         have a6 := n2_
         have a7 := n3_
         have d2 := n4_
         have b2 := n5_
         have b0 := n6_
         have b8 := n7_
         have b4 := n8_
         have b6 := n9_
         have c0 := d4
         have c3 := d5
         have d3 := d6
         have b3 := f3
         have b1 := f4
         have b9 := f5
         have b5 := f6
         have b7 := f7
         have HB := f8
         clear n0_ n1_ n2_ n3_ n4_ n5_ n6_ n7_ n8_ n9_ d4 d5 d6 f3 f4 f5 f6 f7 f8
         have hHeld : w12.cell? ⟨a1, 0, none⟩ = some (.int .i64 a0_0) ∧ w12.cell? ⟨a1, 1, none⟩ = some (.int .i64 a0_1) ∧ w12.cell? ⟨a1, 2, none⟩ = some (.int .i64 a0_2) ∧ w12.cell? ⟨a1, 3, none⟩ = some (.int .i64 a0_3) := hS_
         refine norm_ (a' := ?_) ?_ ?_
         rotate_left
         ·simp only [putAll, Act.put, List.setIfInBounds_toArray, List.set_cons_zero, List.set_cons_succ]
          rfl
         refine one_ (i := 6) (N := some 11) #[true, true, true, true, true, true, true, true, true, true, true, true, true, false, true, true, false, false] rfl rfl (one_of HT_.out (by kernel_rfl)) (by decide) (fun K hK => ?_)
         refine goes_ Tryd.func10 (by kernel_rfl) rfl #[.int .i64 a0_0, .int .i64 a0_1] (by rfl) rfl rfl (by (try simp only [List.map_toArray, List.map_cons, List.map_nil]); first | done | rfl | (simp only [List.length_drop, List.length_take]; rfl)) ?_
         with_reducible refine (laws_rgCut.calls a0_0 a0_1 c8 c9 _ A2.out).mono ?_
         rintro e w13 ⟨rfl, hb⟩
         refine ⟨_, rfl, ?_⟩
         have n0_ := aM (bB (g := a1) (o := .cells #[.int .i64 a0_0, .int .i64 a0_1, .int .i64 a0_2, .int .i64 a0_3] 44 (0, 0)) (by (with_reducible repeat (first | refine bN ?_ _ | refine bD ?_ | refine bA ?_ _)); exact a0.out) hb)
         have n1_ := aM (bB (g := a5) (o := .cells #[.int .i64 0, .int .i64 0, .int .i64 0, .int .i64 0] 44 (0, 0)) (by (with_reducible repeat (first | refine bN ?_ _ | refine bD ?_ | refine bA ?_ _)); exact a2.out) hb)
         have n2_ := aM (bB (g := a3) (o := .cells #[.int .i64 0, .int .i64 0] 23 (0, 0)) (by (with_reducible repeat (first | refine bN ?_ _ | refine bD ?_ | refine bA ?_ _)); exact a6.out) hb)
         have n3_ := aM (bB (g := a4) (o := .cells #[.int .i64 0, .int .i64 0] 23 (0, 0)) (by (with_reducible repeat (first | refine bN ?_ _ | refine bD ?_ | refine bA ?_ _)); exact a7.out) hb)
         have n4_ := aM (wP (by repeat (first | (with_reducible first | exact HB.out | apply wA | apply wN | apply wD | refine wS ?_ a8.out | refine wS ?_ a9.out | refine wS ?_ b2.out | refine wS ?_ b3.out) | exact HB.out)) hb)
         clear a0
         clear a2
         clear a6
         clear a7
         clear HB
         have a0 := n0_
         have a2 := n1_
         have a6 := n2_
         have a7 := n3_
         have HB := n4_
         clear n0_ n1_ n2_ n3_ n4_
         (try clear hb)
         (try clear hb2)
         (try clear hk)
         (try clear hi)
         refine hK.out _ _ ⟨(blk_cell a0.out 0).trans rfl, (blk_cell a0.out 1).trans rfl, (blk_cell a0.out 2).trans rfl, (blk_cell a0.out 3).trans rfl⟩ (fun hHeld => ?_)
         clear hK K
         refine norm_ (a' := ?_) ?_ ?_
         rotate_left
         ·show Act.put _ (some 11) _ = _
          simp only [Act.put, List.setIfInBounds_toArray, List.set_cons_zero, List.set_cons_succ, i64_w, i32_w]
          rfl
         exact norm_ (by first | (simp only [putAll, Act.put, List.setIfInBounds_toArray, List.set_cons_zero, List.set_cons_succ]; done) | (simp only [putAll, Act.put, List.setIfInBounds_toArray, List.set_cons_zero, List.set_cons_succ]; rfl)) (e3 (a3, a4) _ ⟨hHeld, (by (with_reducible repeat (first | refine bN ?_ _ | refine bD ?_ | refine bA ?_ _)); exact a0.out), (by (with_reducible repeat (first | refine bN ?_ _ | refine bD ?_ | refine bA ?_ _)); exact a2.out), (by (with_reducible repeat (first | refine bN ?_ _ | refine bD ?_ | refine bA ?_ _)); exact a6.out), (by (with_reducible repeat (first | refine bN ?_ _ | refine bD ?_ | refine bA ?_ _)); exact a7.out), d2.out, b2.out, b0.out, b8.out, b4.out, b6.out, c0.out, c3.out, d3.out, b3.out, b1.out, b9.out, b5.out, b7.out, (by repeat (first | (with_reducible first | exact HB.out | apply wA | apply wN | apply wD | refine wS ?_ a8.out | refine wS ?_ a9.out | refine wS ?_ b2.out | refine wS ?_ b3.out) | exact HB.out))⟩)
       ·skip
        rintro a4 w12 ⟨hS_, h0_, h1_, h2_, h3_, h4_, h5_, h6_, h7_, h8_, h9_⟩
        have n0_ : Aside0 (w12.heap[a1]? = some (.cells #[.int .i64 a0_0, .int .i64 a0_1, .int .i64 a0_2, .int .i64 a0_3] 44 (0, 0))) := ⟨h0_⟩
        have n1_ : Aside0 (w12.heap[a5]? = some (.cells #[.int .i64 0, .int .i64 0, .int .i64 0, .int .i64 0] 44 (0, 0))) := ⟨h1_⟩
        have n2_ : Aside0 (w12.heap[a4]? = some (.cells #[.int .i64 0, .int .i64 0] 23 (0, 0))) := ⟨h2_⟩
        have n3_ : Aside0 (w.heap.size ≤ a4) := ⟨h3_⟩
        have n4_ : Aside0 (w.heap.size ≤ a4) := ⟨h4_⟩
        have n5_ : Aside0 (a1 ≠ a4) := ⟨h5_⟩
        have n6_ : Aside0 (a4 ≠ a1) := ⟨h6_⟩
        have n7_ : Aside0 (a5 ≠ a4) := ⟨h7_⟩
        have n8_ : Aside0 (a4 ≠ a5) := ⟨h8_⟩
        have n9_ : Aside0 (Below w.heap.size w w12) := ⟨h9_⟩
        clear a0
        clear a2
        clear HB
        clear h0_ h1_ h2_ h3_ h4_ h5_ h6_ h7_ h8_ h9_
        have a0 := n0_
        have a2 := n1_
        have a7 := n2_
        have d3 := n3_
        have b3 := n4_
        have b1 := n5_
        have b9 := n6_
        have b5 := n7_
        have b7 := n8_
        have HB := n9_
        clear n0_ n1_ n2_ n3_ n4_ n5_ n6_ n7_ n8_ n9_
        have hHeld : w12.cell? ⟨a1, 0, none⟩ = some (.int .i64 a0_0) ∧ w12.cell? ⟨a1, 1, none⟩ = some (.int .i64 a0_1) ∧ w12.cell? ⟨a1, 2, none⟩ = some (.int .i64 a0_2) ∧ w12.cell? ⟨a1, 3, none⟩ = some (.int .i64 a0_3) := hS_
        refine norm_ (a' := ?_) ?_ ?_
        rotate_left
        ·simp only [putAll, Act.put, List.setIfInBounds_toArray, List.set_cons_zero, List.set_cons_succ]
         rfl
        refine two_ (i := 13) (j := 14) (Ni := some 18) (Nj := some 3) #[true, true, true, true, true, true, true, true, true, true, true, true, true, true, false, true, false, false] #[true, true, true, true, true, true, true, true, true, true, true, true, true, false, true, true, false, false] rfl rfl rfl rfl (two_of HT_.out (by kernel_rfl)) (by decide) (by decide) (fun K hK => ?_) (fun K hK => ?_)
        ·skip
         refine goes_ Tryd.func10 (by kernel_rfl) rfl #[.int .i64 a0_2, .int .i64 a0_3] (by rfl) rfl rfl (by (try simp only [List.map_toArray, List.map_cons, List.map_nil]); first | done | rfl | (simp only [List.length_drop, List.length_take]; rfl)) ?_
         with_reducible refine (laws_rgCut.calls a0_2 a0_3 d0 d1 _ A3.out).mono ?_
         rintro e w13 ⟨rfl, hb⟩
         refine ⟨_, rfl, ?_⟩
         have n0_ := aM (bB (g := a1) (o := .cells #[.int .i64 a0_0, .int .i64 a0_1, .int .i64 a0_2, .int .i64 a0_3] 44 (0, 0)) (by (with_reducible repeat (first | refine bN ?_ _ | refine bD ?_ | refine bA ?_ _)); exact a0.out) hb)
         have n1_ := aM (bB (g := a5) (o := .cells #[.int .i64 0, .int .i64 0, .int .i64 0, .int .i64 0] 44 (0, 0)) (by (with_reducible repeat (first | refine bN ?_ _ | refine bD ?_ | refine bA ?_ _)); exact a2.out) hb)
         have n2_ := aM (bB (g := a4) (o := .cells #[.int .i64 0, .int .i64 0] 23 (0, 0)) (by (with_reducible repeat (first | refine bN ?_ _ | refine bD ?_ | refine bA ?_ _)); exact a7.out) hb)
         have n3_ := aM (wP (by repeat (first | (with_reducible first | exact HB.out | apply wA | apply wN | apply wD | refine wS ?_ a8.out | refine wS ?_ a9.out | refine wS ?_ b3.out) | exact HB.out)) hb)
         clear a0
         clear a2
         clear a7
         clear HB
         have a0 := n0_
         have a2 := n1_
         have a7 := n2_
         have HB := n3_
         clear n0_ n1_ n2_ n3_
         (try clear hb)
         (try clear hb2)
         (try clear hk)
         (try clear hi)
         refine hK.out _ _ ⟨(blk_cell a0.out 0).trans rfl, (blk_cell a0.out 1).trans rfl, (blk_cell a0.out 2).trans rfl, (blk_cell a0.out 3).trans rfl⟩ (fun hHeld => ?_)
         clear hK K
         refine norm_ (a' := ?_) ?_ ?_
         rotate_left
         ·show Act.put _ (some 18) _ = _
          simp only [Act.put, List.setIfInBounds_toArray, List.set_cons_zero, List.set_cons_succ, i64_w, i32_w]
          rfl
         exact norm_ (by first | (simp only [putAll, Act.put, List.setIfInBounds_toArray, List.set_cons_zero, List.set_cons_succ]; done) | (simp only [putAll, Act.put, List.setIfInBounds_toArray, List.set_cons_zero, List.set_cons_succ]; rfl)) (g3 (a4) _ ⟨hHeld, (by (with_reducible repeat (first | refine bN ?_ _ | refine bD ?_ | refine bA ?_ _)); exact a0.out), (by (with_reducible repeat (first | refine bN ?_ _ | refine bD ?_ | refine bA ?_ _)); exact a2.out), (by (with_reducible repeat (first | refine bN ?_ _ | refine bD ?_ | refine bA ?_ _)); exact a7.out), d3.out, b3.out, b1.out, b9.out, b5.out, b7.out, (by repeat (first | (with_reducible first | exact HB.out | apply wA | apply wN | apply wD | refine wS ?_ a8.out | refine wS ?_ a9.out | refine wS ?_ b3.out) | exact HB.out))⟩)
        ·skip
         refine box_step ?hg (N := 3) ?hd (cs := #[.int .i64 0, .int .i64 0]) (t := 23) ?hr ?_; (case hd => rfl); (case hg => rfl); (case hr => first | (go_simp; done) | (go_simp; rfl))
         intro a3 hg w13 hbox hb
         have n0_ := aM (bB (g := a1) (o := .cells #[.int .i64 a0_0, .int .i64 a0_1, .int .i64 a0_2, .int .i64 a0_3] 44 (0, 0)) (by (with_reducible repeat (first | refine bN ?_ _ | refine bD ?_ | refine bA ?_ _)); exact a0.out) hb)
         have n1_ := aM (bB (g := a5) (o := .cells #[.int .i64 0, .int .i64 0, .int .i64 0, .int .i64 0] 44 (0, 0)) (by (with_reducible repeat (first | refine bN ?_ _ | refine bD ?_ | refine bA ?_ _)); exact a2.out) hb)
         have n2_ := aM (bB (g := a4) (o := .cells #[.int .i64 0, .int .i64 0] 23 (0, 0)) (by (with_reducible repeat (first | refine bN ?_ _ | refine bD ?_ | refine bA ?_ _)); exact a7.out) hb)
         have n3_ := aM (wP (by repeat (first | (with_reducible first | exact HB.out | apply wA | apply wN | apply wD | refine wS ?_ a8.out | refine wS ?_ a9.out | refine wS ?_ b3.out) | exact HB.out)) hb)
         have n4_ := aM (hbox)
         have n5_ := aM ((by rw [hg]; exact (below_size (by repeat (first | (with_reducible first | exact HB.out | apply wA | apply wN | apply wD | refine wS ?_ a8.out | refine wS ?_ a9.out | refine wS ?_ b3.out) | exact HB.out))) : w.heap.size ≤ a3))
         have n6_ := aM ((by rw [hg]; exact (below_size (by repeat (first | (with_reducible first | exact HB.out | apply wA | apply wN | apply wD | refine wS ?_ a8.out | refine wS ?_ a9.out | refine wS ?_ b3.out) | exact HB.out))) : w.heap.size ≤ a3))
         have n7_ := aM ((by rw [hg]; exact Nat.ne_of_lt (bL (g := a1) (o := .cells #[.int .i64 a0_0, .int .i64 a0_1, .int .i64 a0_2, .int .i64 a0_3] 44 (0, 0)) (by (with_reducible repeat (first | refine bN ?_ _ | refine bD ?_ | refine bA ?_ _)); exact a0.out)) : a1 ≠ a3))
         have n8_ := aM ((by rw [hg]; exact Nat.ne_of_gt (bL (g := a1) (o := .cells #[.int .i64 a0_0, .int .i64 a0_1, .int .i64 a0_2, .int .i64 a0_3] 44 (0, 0)) (by (with_reducible repeat (first | refine bN ?_ _ | refine bD ?_ | refine bA ?_ _)); exact a0.out)) : a3 ≠ a1))
         have n9_ := aM ((by rw [hg]; exact Nat.ne_of_lt (bL (g := a5) (o := .cells #[.int .i64 0, .int .i64 0, .int .i64 0, .int .i64 0] 44 (0, 0)) (by (with_reducible repeat (first | refine bN ?_ _ | refine bD ?_ | refine bA ?_ _)); exact a2.out)) : a5 ≠ a3))
         have d4 := aM ((by rw [hg]; exact Nat.ne_of_gt (bL (g := a5) (o := .cells #[.int .i64 0, .int .i64 0, .int .i64 0, .int .i64 0] 44 (0, 0)) (by (with_reducible repeat (first | refine bN ?_ _ | refine bD ?_ | refine bA ?_ _)); exact a2.out)) : a3 ≠ a5))
         have d5 := aM ((by rw [hg]; exact Nat.ne_of_lt (bL (g := a4) (o := .cells #[.int .i64 0, .int .i64 0] 23 (0, 0)) (by (with_reducible repeat (first | refine bN ?_ _ | refine bD ?_ | refine bA ?_ _)); exact a7.out)) : a4 ≠ a3))
         have d6 := aM ((by rw [hg]; exact Nat.ne_of_gt (bL (g := a4) (o := .cells #[.int .i64 0, .int .i64 0] 23 (0, 0)) (by (with_reducible repeat (first | refine bN ?_ _ | refine bD ?_ | refine bA ?_ _)); exact a7.out)) : a3 ≠ a4))
         clear a0
         clear a2
         clear a7
         clear HB
         have a0 := n0_
         have a2 := n1_
         have a7 := n2_
         have HB := n3_
         have a6 := n4_
         have d2 := n5_
         have b2 := n6_
         have b0 := n7_
         have b8 := n8_
         have b4 := n9_
         have b6 := d4
         have c0 := d5
         have c3 := d6
         clear n0_ n1_ n2_ n3_ n4_ n5_ n6_ n7_ n8_ n9_ d4 d5 d6
         clear hb hbox hg
         refine hK.out _ _ ⟨(blk_cell a0.out 0).trans rfl, (blk_cell a0.out 1).trans rfl, (blk_cell a0.out 2).trans rfl, (blk_cell a0.out 3).trans rfl⟩ (fun hHeld => ?_)
         clear hK K
         refine norm_ (a' := ?_) ?_ ?_
         rotate_left
         ·show Act.put _ (some 3) _ = _
          simp only [Act.put, List.setIfInBounds_toArray, List.set_cons_zero, List.set_cons_succ, i64_w, i32_w]
          rfl
         exact norm_ (by first | (simp only [putAll, Act.put, List.setIfInBounds_toArray, List.set_cons_zero, List.set_cons_succ]; done) | (simp only [putAll, Act.put, List.setIfInBounds_toArray, List.set_cons_zero, List.set_cons_succ]; rfl)) (e3 (a3, a4) _ ⟨hHeld, (by (with_reducible repeat (first | refine bN ?_ _ | refine bD ?_ | refine bA ?_ _)); exact a0.out), (by (with_reducible repeat (first | refine bN ?_ _ | refine bD ?_ | refine bA ?_ _)); exact a2.out), (by (with_reducible repeat (first | refine bN ?_ _ | refine bD ?_ | refine bA ?_ _)); exact a6.out), (by (with_reducible repeat (first | refine bN ?_ _ | refine bD ?_ | refine bA ?_ _)); exact a7.out), d2.out, b2.out, b0.out, b8.out, b4.out, b6.out, c0.out, c3.out, d3.out, b3.out, b1.out, b9.out, b5.out, b7.out, (by repeat (first | (with_reducible first | exact HB.out | apply wA | apply wN | apply wD | refine wS ?_ a8.out | refine wS ?_ a9.out | refine wS ?_ b3.out | refine wS ?_ b2.out) | exact HB.out))⟩)
      ·skip
       rintro a3 w12 ⟨hS_, h0_, h1_, h2_, h3_, h4_, h5_, h6_, h7_, h8_, h9_⟩
       have n0_ : Aside0 (w12.heap[a1]? = some (.cells #[.int .i64 a0_0, .int .i64 a0_1, .int .i64 a0_2, .int .i64 a0_3] 44 (0, 0))) := ⟨h0_⟩
       have n1_ : Aside0 (w12.heap[a5]? = some (.cells #[.int .i64 0, .int .i64 0, .int .i64 0, .int .i64 0] 44 (0, 0))) := ⟨h1_⟩
       have n2_ : Aside0 (w12.heap[a3]? = some (.cells #[.int .i64 0, .int .i64 0] 23 (0, 0))) := ⟨h2_⟩
       have n3_ : Aside0 (w.heap.size ≤ a3) := ⟨h3_⟩
       have n4_ : Aside0 (w.heap.size ≤ a3) := ⟨h4_⟩
       have n5_ : Aside0 (a1 ≠ a3) := ⟨h5_⟩
       have n6_ : Aside0 (a3 ≠ a1) := ⟨h6_⟩
       have n7_ : Aside0 (a5 ≠ a3) := ⟨h7_⟩
       have n8_ : Aside0 (a3 ≠ a5) := ⟨h8_⟩
       have n9_ : Aside0 (Below w.heap.size w w12) := ⟨h9_⟩
       clear a0
       clear a2
       clear HB
       clear h0_ h1_ h2_ h3_ h4_ h5_ h6_ h7_ h8_ h9_
       have a0 := n0_
       have a2 := n1_
       have a6 := n2_
       have d2 := n3_
       have b2 := n4_
       have b0 := n5_
       have b8 := n6_
       have b4 := n7_
       have b6 := n8_
       have HB := n9_
       clear n0_ n1_ n2_ n3_ n4_ n5_ n6_ n7_ n8_ n9_
       have hHeld : w12.cell? ⟨a1, 0, none⟩ = some (.int .i64 a0_0) ∧ w12.cell? ⟨a1, 1, none⟩ = some (.int .i64 a0_1) ∧ w12.cell? ⟨a1, 2, none⟩ = some (.int .i64 a0_2) ∧ w12.cell? ⟨a1, 3, none⟩ = some (.int .i64 a0_3) := hS_
       refine norm_ (a' := ?_) ?_ ?_
       rotate_left
       ·simp only [putAll, Act.put, List.setIfInBounds_toArray, List.set_cons_zero, List.set_cons_succ]
        rfl
       refine two_ (i := 13) (j := 15) (Ni := some 18) (Nj := some 4) #[true, true, true, true, true, true, true, true, true, true, true, true, true, true, true, false, false, false] #[true, true, true, true, true, true, true, true, true, true, true, true, true, false, true, true, false, false] rfl rfl rfl rfl (two_of HT_.out (by kernel_rfl)) (by decide) (by decide) (fun K hK => ?_) (fun K hK => ?_)
       ·skip
        refine goes_ Tryd.func10 (by kernel_rfl) rfl #[.int .i64 a0_2, .int .i64 a0_3] (by rfl) rfl rfl (by (try simp only [List.map_toArray, List.map_cons, List.map_nil]); first | done | rfl | (simp only [List.length_drop, List.length_take]; rfl)) ?_
        with_reducible refine (laws_rgCut.calls a0_2 a0_3 d0 d1 _ A3.out).mono ?_
        rintro e w13 ⟨rfl, hb⟩
        refine ⟨_, rfl, ?_⟩
        have n0_ := aM (bB (g := a1) (o := .cells #[.int .i64 a0_0, .int .i64 a0_1, .int .i64 a0_2, .int .i64 a0_3] 44 (0, 0)) (by (with_reducible repeat (first | refine bN ?_ _ | refine bD ?_ | refine bA ?_ _)); exact a0.out) hb)
        have n1_ := aM (bB (g := a5) (o := .cells #[.int .i64 0, .int .i64 0, .int .i64 0, .int .i64 0] 44 (0, 0)) (by (with_reducible repeat (first | refine bN ?_ _ | refine bD ?_ | refine bA ?_ _)); exact a2.out) hb)
        have n2_ := aM (bB (g := a3) (o := .cells #[.int .i64 0, .int .i64 0] 23 (0, 0)) (by (with_reducible repeat (first | refine bN ?_ _ | refine bD ?_ | refine bA ?_ _)); exact a6.out) hb)
        have n3_ := aM (wP (by repeat (first | (with_reducible first | exact HB.out | apply wA | apply wN | apply wD | refine wS ?_ a8.out | refine wS ?_ a9.out | refine wS ?_ b2.out) | exact HB.out)) hb)
        clear a0
        clear a2
        clear a6
        clear HB
        have a0 := n0_
        have a2 := n1_
        have a6 := n2_
        have HB := n3_
        clear n0_ n1_ n2_ n3_
        (try clear hb)
        (try clear hb2)
        (try clear hk)
        (try clear hi)
        refine hK.out _ _ ⟨(blk_cell a0.out 0).trans rfl, (blk_cell a0.out 1).trans rfl, (blk_cell a0.out 2).trans rfl, (blk_cell a0.out 3).trans rfl⟩ (fun hHeld => ?_)
        clear hK K
        refine norm_ (a' := ?_) ?_ ?_
        rotate_left
        ·show Act.put _ (some 18) _ = _
         simp only [Act.put, List.setIfInBounds_toArray, List.set_cons_zero, List.set_cons_succ, i64_w, i32_w]
         rfl
        exact norm_ (by first | (simp only [putAll, Act.put, List.setIfInBounds_toArray, List.set_cons_zero, List.set_cons_succ]; done) | (simp only [putAll, Act.put, List.setIfInBounds_toArray, List.set_cons_zero, List.set_cons_succ]; rfl)) (g2 (a3) _ ⟨hHeld, (by (with_reducible repeat (first | refine bN ?_ _ | refine bD ?_ | refine bA ?_ _)); exact a0.out), (by (with_reducible repeat (first | refine bN ?_ _ | refine bD ?_ | refine bA ?_ _)); exact a2.out), (by (with_reducible repeat (first | refine bN ?_ _ | refine bD ?_ | refine bA ?_ _)); exact a6.out), d2.out, b2.out, b0.out, b8.out, b4.out, b6.out, (by repeat (first | (with_reducible first | exact HB.out | apply wA | apply wN | apply wD | refine wS ?_ a8.out | refine wS ?_ a9.out | refine wS ?_ b2.out) | exact HB.out))⟩)
       ·skip
        refine box_step ?hg (N := 4) ?hd (cs := #[.int .i64 0, .int .i64 0]) (t := 23) ?hr ?_; (case hd => rfl); (case hg => rfl); (case hr => first | (go_simp; done) | (go_simp; rfl))
        intro a4 hg w13 hbox hb
        have n0_ := aM (bB (g := a1) (o := .cells #[.int .i64 a0_0, .int .i64 a0_1, .int .i64 a0_2, .int .i64 a0_3] 44 (0, 0)) (by (with_reducible repeat (first | refine bN ?_ _ | refine bD ?_ | refine bA ?_ _)); exact a0.out) hb)
        have n1_ := aM (bB (g := a5) (o := .cells #[.int .i64 0, .int .i64 0, .int .i64 0, .int .i64 0] 44 (0, 0)) (by (with_reducible repeat (first | refine bN ?_ _ | refine bD ?_ | refine bA ?_ _)); exact a2.out) hb)
        have n2_ := aM (bB (g := a3) (o := .cells #[.int .i64 0, .int .i64 0] 23 (0, 0)) (by (with_reducible repeat (first | refine bN ?_ _ | refine bD ?_ | refine bA ?_ _)); exact a6.out) hb)
        have n3_ := aM (wP (by repeat (first | (with_reducible first | exact HB.out | apply wA | apply wN | apply wD | refine wS ?_ a8.out | refine wS ?_ a9.out | refine wS ?_ b2.out) | exact HB.out)) hb)
        have n4_ := aM (hbox)
        have n5_ := aM ((by rw [hg]; exact (below_size (by repeat (first | (with_reducible first | exact HB.out | apply wA | apply wN | apply wD | refine wS ?_ a8.out | refine wS ?_ a9.out | refine wS ?_ b2.out) | exact HB.out))) : w.heap.size ≤ a4))
        have n6_ := aM ((by rw [hg]; exact (below_size (by repeat (first | (with_reducible first | exact HB.out | apply wA | apply wN | apply wD | refine wS ?_ a8.out | refine wS ?_ a9.out | refine wS ?_ b2.out) | exact HB.out))) : w.heap.size ≤ a4))
        have n7_ := aM ((by rw [hg]; exact Nat.ne_of_lt (bL (g := a1) (o := .cells #[.int .i64 a0_0, .int .i64 a0_1, .int .i64 a0_2, .int .i64 a0_3] 44 (0, 0)) (by (with_reducible repeat (first | refine bN ?_ _ | refine bD ?_ | refine bA ?_ _)); exact a0.out)) : a1 ≠ a4))
        have n8_ := aM ((by rw [hg]; exact Nat.ne_of_gt (bL (g := a1) (o := .cells #[.int .i64 a0_0, .int .i64 a0_1, .int .i64 a0_2, .int .i64 a0_3] 44 (0, 0)) (by (with_reducible repeat (first | refine bN ?_ _ | refine bD ?_ | refine bA ?_ _)); exact a0.out)) : a4 ≠ a1))
        have n9_ := aM ((by rw [hg]; exact Nat.ne_of_lt (bL (g := a5) (o := .cells #[.int .i64 0, .int .i64 0, .int .i64 0, .int .i64 0] 44 (0, 0)) (by (with_reducible repeat (first | refine bN ?_ _ | refine bD ?_ | refine bA ?_ _)); exact a2.out)) : a5 ≠ a4))
        have d4 := aM ((by rw [hg]; exact Nat.ne_of_gt (bL (g := a5) (o := .cells #[.int .i64 0, .int .i64 0, .int .i64 0, .int .i64 0] 44 (0, 0)) (by (with_reducible repeat (first | refine bN ?_ _ | refine bD ?_ | refine bA ?_ _)); exact a2.out)) : a4 ≠ a5))
        have d5 := aM ((by rw [hg]; exact Nat.ne_of_lt (bL (g := a3) (o := .cells #[.int .i64 0, .int .i64 0] 23 (0, 0)) (by (with_reducible repeat (first | refine bN ?_ _ | refine bD ?_ | refine bA ?_ _)); exact a6.out)) : a3 ≠ a4))
        have d6 := aM ((by rw [hg]; exact Nat.ne_of_gt (bL (g := a3) (o := .cells #[.int .i64 0, .int .i64 0] 23 (0, 0)) (by (with_reducible repeat (first | refine bN ?_ _ | refine bD ?_ | refine bA ?_ _)); exact a6.out)) : a4 ≠ a3))
        clear a0
        clear a2
        clear a6
        clear HB
        have a0 := n0_
        have a2 := n1_
        have a6 := n2_
        have HB := n3_
        have a7 := n4_
        have d3 := n5_
        have b3 := n6_
        have b1 := n7_
        have b9 := n8_
        have b5 := n9_
        have b7 := d4
        have c3 := d5
        have c0 := d6
        clear n0_ n1_ n2_ n3_ n4_ n5_ n6_ n7_ n8_ n9_ d4 d5 d6
        clear hb hbox hg
        refine hK.out _ _ ⟨(blk_cell a0.out 0).trans rfl, (blk_cell a0.out 1).trans rfl, (blk_cell a0.out 2).trans rfl, (blk_cell a0.out 3).trans rfl⟩ (fun hHeld => ?_)
        clear hK K
        refine norm_ (a' := ?_) ?_ ?_
        rotate_left
        ·show Act.put _ (some 4) _ = _
         simp only [Act.put, List.setIfInBounds_toArray, List.set_cons_zero, List.set_cons_succ, i64_w, i32_w]
         rfl
        exact norm_ (by first | (simp only [putAll, Act.put, List.setIfInBounds_toArray, List.set_cons_zero, List.set_cons_succ]; done) | (simp only [putAll, Act.put, List.setIfInBounds_toArray, List.set_cons_zero, List.set_cons_succ]; rfl)) (e3 (a3, a4) _ ⟨hHeld, (by (with_reducible repeat (first | refine bN ?_ _ | refine bD ?_ | refine bA ?_ _)); exact a0.out), (by (with_reducible repeat (first | refine bN ?_ _ | refine bD ?_ | refine bA ?_ _)); exact a2.out), (by (with_reducible repeat (first | refine bN ?_ _ | refine bD ?_ | refine bA ?_ _)); exact a6.out), (by (with_reducible repeat (first | refine bN ?_ _ | refine bD ?_ | refine bA ?_ _)); exact a7.out), d2.out, b2.out, b0.out, b8.out, b4.out, b6.out, c0.out, c3.out, d3.out, b3.out, b1.out, b9.out, b5.out, b7.out, (by repeat (first | (with_reducible first | exact HB.out | apply wA | apply wN | apply wD | refine wS ?_ a8.out | refine wS ?_ a9.out | refine wS ?_ b2.out | refine wS ?_ b3.out) | exact HB.out))⟩)
     ·skip
      rintro _ w12 ⟨hS_, h0_, h1_, h2_⟩
      have n0_ : Aside0 (w12.heap[a1]? = some (.cells #[.int .i64 a0_0, .int .i64 a0_1, .int .i64 a0_2, .int .i64 a0_3] 44 (0, 0))) := ⟨h0_⟩
      have n1_ : Aside0 (w12.heap[a5]? = some (.cells #[.int .i64 0, .int .i64 0, .int .i64 0, .int .i64 0] 44 (0, 0))) := ⟨h1_⟩
      have n2_ : Aside0 (Below w.heap.size w w12) := ⟨h2_⟩
      clear a0
      clear a2
      clear HB
      clear h0_ h1_ h2_
      have a0 := n0_
      have a2 := n1_
      have HB := n2_
      clear n0_ n1_ n2_
      have hHeld : w12.cell? ⟨a1, 0, none⟩ = some (.int .i64 a0_0) ∧ w12.cell? ⟨a1, 1, none⟩ = some (.int .i64 a0_1) ∧ w12.cell? ⟨a1, 2, none⟩ = some (.int .i64 a0_2) ∧ w12.cell? ⟨a1, 3, none⟩ = some (.int .i64 a0_3) := hS_
      refine norm_ (a' := ?_) ?_ ?_
      rotate_left
      ·simp only [putAll, Act.put, List.setIfInBounds_toArray, List.set_cons_zero, List.set_cons_succ]
       rfl
      refine two_ (i := 14) (j := 15) (Ni := some 3) (Nj := some 4) #[true, true, true, true, true, true, true, true, true, true, true, true, true, true, true, false, false, false] #[true, true, true, true, true, true, true, true, true, true, true, true, true, true, false, true, false, false] rfl rfl rfl rfl (two_of HT_.out (by kernel_rfl)) (by decide) (by decide) (fun K hK => ?_) (fun K hK => ?_)
      ·skip
       refine box_step ?hg (N := 3) ?hd (cs := #[.int .i64 0, .int .i64 0]) (t := 23) ?hr ?_; (case hd => rfl); (case hg => rfl); (case hr => first | (go_simp; done) | (go_simp; rfl))
       intro a3 hg w13 hbox hb
       have n0_ := aM (bB (g := a1) (o := .cells #[.int .i64 a0_0, .int .i64 a0_1, .int .i64 a0_2, .int .i64 a0_3] 44 (0, 0)) (by (with_reducible repeat (first | refine bN ?_ _ | refine bD ?_ | refine bA ?_ _)); exact a0.out) hb)
       have n1_ := aM (bB (g := a5) (o := .cells #[.int .i64 0, .int .i64 0, .int .i64 0, .int .i64 0] 44 (0, 0)) (by (with_reducible repeat (first | refine bN ?_ _ | refine bD ?_ | refine bA ?_ _)); exact a2.out) hb)
       have n2_ := aM (wP (by repeat (first | (with_reducible first | exact HB.out | apply wA | apply wN | apply wD | refine wS ?_ a8.out | refine wS ?_ a9.out) | exact HB.out)) hb)
       have n3_ := aM (hbox)
       have n4_ := aM ((by rw [hg]; exact (below_size (by repeat (first | (with_reducible first | exact HB.out | apply wA | apply wN | apply wD | refine wS ?_ a8.out | refine wS ?_ a9.out) | exact HB.out))) : w.heap.size ≤ a3))
       have n5_ := aM ((by rw [hg]; exact (below_size (by repeat (first | (with_reducible first | exact HB.out | apply wA | apply wN | apply wD | refine wS ?_ a8.out | refine wS ?_ a9.out) | exact HB.out))) : w.heap.size ≤ a3))
       have n6_ := aM ((by rw [hg]; exact Nat.ne_of_lt (bL (g := a1) (o := .cells #[.int .i64 a0_0, .int .i64 a0_1, .int .i64 a0_2, .int .i64 a0_3] 44 (0, 0)) (by (with_reducible repeat (first | refine bN ?_ _ | refine bD ?_ | refine bA ?_ _)); exact a0.out)) : a1 ≠ a3))
       have n7_ := aM ((by rw [hg]; exact Nat.ne_of_gt (bL (g := a1) (o := .cells #[.int .i64 a0_0, .int .i64 a0_1, .int .i64 a0_2, .int .i64 a0_3] 44 (0, 0)) (by (with_reducible repeat (first | refine bN ?_ _ | refine bD ?_ | refine bA ?_ _)); exact a0.out)) : a3 ≠ a1))
       have n8_ := aM ((by rw [hg]; exact Nat.ne_of_lt (bL (g := a5) (o := .cells #[.int .i64 0, .int .i64 0, .int .i64 0, .int .i64 0] 44 (0, 0)) (by (with_reducible repeat (first | refine bN ?_ _ | refine bD ?_ | refine bA ?_ _)); exact a2.out)) : a5 ≠ a3))
       have n9_ := aM ((by rw [hg]; exact Nat.ne_of_gt (bL (g := a5) (o := .cells #[.int .i64 0, .int .i64 0, .int .i64 0, .int .i64 0] 44 (0, 0)) (by (with_reducible repeat (first | refine bN ?_ _ | refine bD ?_ | refine bA ?_ _)); exact a2.out)) : a3 ≠ a5))
       clear a0
       clear a2
       clear HB
       have a0 := n0_
       have a2 := n1_
       have HB := n2_
       have a6 := n3_
       have d2 := n4_
       have b2 := n5_
       have b0 := n6_
       have b8 := n7_
       have b4 := n8_
       have b6 := n9_
       clear n0_ n1_ n2_ n3_ n4_ n5_ n6_ n7_ n8_ n9_
       clear hb hbox hg
       refine hK.out _ _ ⟨(blk_cell a0.out 0).trans rfl, (blk_cell a0.out 1).trans rfl, (blk_cell a0.out 2).trans rfl, (blk_cell a0.out 3).trans rfl⟩ (fun hHeld => ?_)
       clear hK K
       refine norm_ (a' := ?_) ?_ ?_
       rotate_left
       ·show Act.put _ (some 3) _ = _
        simp only [Act.put, List.setIfInBounds_toArray, List.set_cons_zero, List.set_cons_succ, i64_w, i32_w]
        rfl
       exact norm_ (by first | (simp only [putAll, Act.put, List.setIfInBounds_toArray, List.set_cons_zero, List.set_cons_succ]; done) | (simp only [putAll, Act.put, List.setIfInBounds_toArray, List.set_cons_zero, List.set_cons_succ]; rfl)) (g2 (a3) _ ⟨hHeld, (by (with_reducible repeat (first | refine bN ?_ _ | refine bD ?_ | refine bA ?_ _)); exact a0.out), (by (with_reducible repeat (first | refine bN ?_ _ | refine bD ?_ | refine bA ?_ _)); exact a2.out), (by (with_reducible repeat (first | refine bN ?_ _ | refine bD ?_ | refine bA ?_ _)); exact a6.out), d2.out, b2.out, b0.out, b8.out, b4.out, b6.out, (by repeat (first | (with_reducible first | exact HB.out | apply wA | apply wN | apply wD | refine wS ?_ a8.out | refine wS ?_ a9.out | refine wS ?_ b2.out) | exact HB.out))⟩)
      ·skip
       refine box_step ?hg (N := 4) ?hd (cs := #[.int .i64 0, .int .i64 0]) (t := 23) ?hr ?_; (case hd => rfl); (case hg => rfl); (case hr => first | (go_simp; done) | (go_simp; rfl))
       intro a4 hg w13 hbox hb
       have n0_ := aM (bB (g := a1) (o := .cells #[.int .i64 a0_0, .int .i64 a0_1, .int .i64 a0_2, .int .i64 a0_3] 44 (0, 0)) (by (with_reducible repeat (first | refine bN ?_ _ | refine bD ?_ | refine bA ?_ _)); exact a0.out) hb)
       have n1_ := aM (bB (g := a5) (o := .cells #[.int .i64 0, .int .i64 0, .int .i64 0, .int .i64 0] 44 (0, 0)) (by (with_reducible repeat (first | refine bN ?_ _ | refine bD ?_ | refine bA ?_ _)); exact a2.out) hb)
       have n2_ := aM (wP (by repeat (first | (with_reducible first | exact HB.out | apply wA | apply wN | apply wD | refine wS ?_ a8.out | refine wS ?_ a9.out) | exact HB.out)) hb)
       have n3_ := aM (hbox)
       have n4_ := aM ((by rw [hg]; exact (below_size (by repeat (first | (with_reducible first | exact HB.out | apply wA | apply wN | apply wD | refine wS ?_ a8.out | refine wS ?_ a9.out) | exact HB.out))) : w.heap.size ≤ a4))
       have n5_ := aM ((by rw [hg]; exact (below_size (by repeat (first | (with_reducible first | exact HB.out | apply wA | apply wN | apply wD | refine wS ?_ a8.out | refine wS ?_ a9.out) | exact HB.out))) : w.heap.size ≤ a4))
       have n6_ := aM ((by rw [hg]; exact Nat.ne_of_lt (bL (g := a1) (o := .cells #[.int .i64 a0_0, .int .i64 a0_1, .int .i64 a0_2, .int .i64 a0_3] 44 (0, 0)) (by (with_reducible repeat (first | refine bN ?_ _ | refine bD ?_ | refine bA ?_ _)); exact a0.out)) : a1 ≠ a4))
       have n7_ := aM ((by rw [hg]; exact Nat.ne_of_gt (bL (g := a1) (o := .cells #[.int .i64 a0_0, .int .i64 a0_1, .int .i64 a0_2, .int .i64 a0_3] 44 (0, 0)) (by (with_reducible repeat (first | refine bN ?_ _ | refine bD ?_ | refine bA ?_ _)); exact a0.out)) : a4 ≠ a1))
       have n8_ := aM ((by rw [hg]; exact Nat.ne_of_lt (bL (g := a5) (o := .cells #[.int .i64 0, .int .i64 0, .int .i64 0, .int .i64 0] 44 (0, 0)) (by (with_reducible repeat (first | refine bN ?_ _ | refine bD ?_ | refine bA ?_ _)); exact a2.out)) : a5 ≠ a4))
       have n9_ := aM ((by rw [hg]; exact Nat.ne_of_gt (bL (g := a5) (o := .cells #[.int .i64 0, .int .i64 0, .int .i64 0, .int .i64 0] 44 (0, 0)) (by (with_reducible repeat (first | refine bN ?_ _ | refine bD ?_ | refine bA ?_ _)); exact a2.out)) : a4 ≠ a5))
       clear a0
       clear a2
       clear HB
       have a0 := n0_
       have a2 := n1_
       have HB := n2_
       have a7 := n3_
       have d3 := n4_
       have b3 := n5_
       have b1 := n6_
       have b9 := n7_
       have b5 := n8_
       have b7 := n9_
       clear n0_ n1_ n2_ n3_ n4_ n5_ n6_ n7_ n8_ n9_
       clear hb hbox hg
       refine hK.out _ _ ⟨(blk_cell a0.out 0).trans rfl, (blk_cell a0.out 1).trans rfl, (blk_cell a0.out 2).trans rfl, (blk_cell a0.out 3).trans rfl⟩ (fun hHeld => ?_)
       clear hK K
       refine norm_ (a' := ?_) ?_ ?_
       rotate_left
       ·show Act.put _ (some 4) _ = _
        simp only [Act.put, List.setIfInBounds_toArray, List.set_cons_zero, List.set_cons_succ, i64_w, i32_w]
        rfl
       exact norm_ (by first | (simp only [putAll, Act.put, List.setIfInBounds_toArray, List.set_cons_zero, List.set_cons_succ]; done) | (simp only [putAll, Act.put, List.setIfInBounds_toArray, List.set_cons_zero, List.set_cons_succ]; rfl)) (g3 (a4) _ ⟨hHeld, (by (with_reducible repeat (first | refine bN ?_ _ | refine bD ?_ | refine bA ?_ _)); exact a0.out), (by (with_reducible repeat (first | refine bN ?_ _ | refine bD ?_ | refine bA ?_ _)); exact a2.out), (by (with_reducible repeat (first | refine bN ?_ _ | refine bD ?_ | refine bA ?_ _)); exact a7.out), d3.out, b3.out, b1.out, b9.out, b5.out, b7.out, (by repeat (first | (with_reducible first | exact HB.out | apply wA | apply wN | apply wD | refine wS ?_ a8.out | refine wS ?_ a9.out | refine wS ?_ b3.out) | exact HB.out))⟩)
    ·skip
     rintro ⟨a3, a4⟩ w13 ⟨hS_, h0_, h1_, h2_, h3_, h4_, h5_, h6_, h7_, h8_, h9_, e4, e5, e6, e7, e8, e9, f0, f1, f2⟩
     have n0_ : Aside0 (w13.heap[a1]? = some (.cells #[.int .i64 a0_0, .int .i64 a0_1, .int .i64 a0_2, .int .i64 a0_3] 44 (0, 0))) := ⟨h0_⟩
     have n1_ : Aside0 (w13.heap[a5]? = some (.cells #[.int .i64 0, .int .i64 0, .int .i64 0, .int .i64 0] 44 (0, 0))) := ⟨h1_⟩
     have n2_ : Aside0 (w13.heap[a3]? = some (.cells #[.int .i64 0, .int .i64 0] 23 (0, 0))) := ⟨h2_⟩
     have n3_ : Aside0 (w13.heap[a4]? = some (.cells #[.int .i64 0, .int .i64 0] 23 (0, 0))) := ⟨h3_⟩
     have n4_ : Aside0 (w.heap.size ≤ a3) := ⟨h4_⟩
     have n5_ : Aside0 (w.heap.size ≤ a3) := ⟨h5_⟩
     have n6_ : Aside0 (a1 ≠ a3) := ⟨h6_⟩
     have n7_ : Aside0 (a3 ≠ a1) := ⟨h7_⟩
     have n8_ : Aside0 (a5 ≠ a3) := ⟨h8_⟩
     have n9_ : Aside0 (a3 ≠ a5) := ⟨h9_⟩
     have d4 : Aside0 (a4 ≠ a3) := ⟨e4⟩
     have d5 : Aside0 (a3 ≠ a4) := ⟨e5⟩
     have d6 : Aside0 (w.heap.size ≤ a4) := ⟨e6⟩
     have f3 : Aside0 (w.heap.size ≤ a4) := ⟨e7⟩
     have f4 : Aside0 (a1 ≠ a4) := ⟨e8⟩
     have f5 : Aside0 (a4 ≠ a1) := ⟨e9⟩
     have f6 : Aside0 (a5 ≠ a4) := ⟨f0⟩
     have f7 : Aside0 (a4 ≠ a5) := ⟨f1⟩
     have f8 : Aside0 (Below w.heap.size w w13) := ⟨f2⟩
     clear a0
     clear a2
     clear HB
     clear h0_ h1_ h2_ h3_ h4_ h5_ h6_ h7_ h8_ h9_ e4 e5 e6 e7 e8 e9 f0 f1 f2
     have a0 := n0_
     have a2 := n1_
     have a6 := n2_
     have a7 := n3_
     have d2 := n4_
     have b2 := n5_
     have b0 := n6_
     have b8 := n7_
     have b4 := n8_
     have b6 := n9_
     have c0 := d4
     have c3 := d5
     have d3 := d6
     have b3 := f3
     have b1 := f4
     have b9 := f5
     have b5 := f6
     have b7 := f7
     have HB := f8
     clear n0_ n1_ n2_ n3_ n4_ n5_ n6_ n7_ n8_ n9_ d4 d5 d6 f3 f4 f5 f6 f7 f8
     have hHeld : w13.cell? ⟨a1, 0, none⟩ = some (.int .i64 a0_0) ∧ w13.cell? ⟨a1, 1, none⟩ = some (.int .i64 a0_1) ∧ w13.cell? ⟨a1, 2, none⟩ = some (.int .i64 a0_2) ∧ w13.cell? ⟨a1, 3, none⟩ = some (.int .i64 a0_3) := hS_
     refine norm_ (a' := ?_) ?_ ?_
     rotate_left
     ·simp only [putAll, Act.put, List.setIfInBounds_toArray, List.set_cons_zero, List.set_cons_succ]
      rfl
     refine one_ (i := 13) (N := some 18) #[true, true, true, true, true, true, true, true, true, true, true, true, true, true, true, true, false, false] rfl rfl (one_of HT_.out (by kernel_rfl)) (by decide) (fun K hK => ?_)
     refine goes_ Tryd.func10 (by kernel_rfl) rfl #[.int .i64 a0_2, .int .i64 a0_3] (by rfl) rfl rfl (by (try simp only [List.map_toArray, List.map_cons, List.map_nil]); first | done | rfl | (simp only [List.length_drop, List.length_take]; rfl)) ?_
     with_reducible refine (laws_rgCut.calls a0_2 a0_3 d0 d1 _ A3.out).mono ?_
     rintro e w14 ⟨rfl, hb⟩
     refine ⟨_, rfl, ?_⟩
     have n0_ := aM (bB (g := a1) (o := .cells #[.int .i64 a0_0, .int .i64 a0_1, .int .i64 a0_2, .int .i64 a0_3] 44 (0, 0)) (by (with_reducible repeat (first | refine bN ?_ _ | refine bD ?_ | refine bA ?_ _)); exact a0.out) hb)
     have n1_ := aM (bB (g := a5) (o := .cells #[.int .i64 0, .int .i64 0, .int .i64 0, .int .i64 0] 44 (0, 0)) (by (with_reducible repeat (first | refine bN ?_ _ | refine bD ?_ | refine bA ?_ _)); exact a2.out) hb)
     have n2_ := aM (bB (g := a3) (o := .cells #[.int .i64 0, .int .i64 0] 23 (0, 0)) (by (with_reducible repeat (first | refine bN ?_ _ | refine bD ?_ | refine bA ?_ _)); exact a6.out) hb)
     have n3_ := aM (bB (g := a4) (o := .cells #[.int .i64 0, .int .i64 0] 23 (0, 0)) (by (with_reducible repeat (first | refine bN ?_ _ | refine bD ?_ | refine bA ?_ _)); exact a7.out) hb)
     have n4_ := aM (wP (by repeat (first | (with_reducible first | exact HB.out | apply wA | apply wN | apply wD | refine wS ?_ a8.out | refine wS ?_ a9.out | refine wS ?_ b2.out | refine wS ?_ b3.out) | exact HB.out)) hb)
     clear a0
     clear a2
     clear a6
     clear a7
     clear HB
     have a0 := n0_
     have a2 := n1_
     have a6 := n2_
     have a7 := n3_
     have HB := n4_
     clear n0_ n1_ n2_ n3_ n4_
     (try clear hb)
     (try clear hb2)
     (try clear hk)
     (try clear hi)
     refine hK.out _ _ ⟨(blk_cell a0.out 0).trans rfl, (blk_cell a0.out 1).trans rfl, (blk_cell a0.out 2).trans rfl, (blk_cell a0.out 3).trans rfl⟩ (fun hHeld => ?_)
     clear hK K
     refine norm_ (a' := ?_) ?_ ?_
     rotate_left
     ·show Act.put _ (some 18) _ = _
      simp only [Act.put, List.setIfInBounds_toArray, List.set_cons_zero, List.set_cons_succ, i64_w, i32_w]
      rfl
     exact norm_ (by first | (simp only [putAll, Act.put, List.setIfInBounds_toArray, List.set_cons_zero, List.set_cons_succ]; done) | (simp only [putAll, Act.put, List.setIfInBounds_toArray, List.set_cons_zero, List.set_cons_succ]; rfl)) (e0 (a3, a4) _ ⟨hHeld, (by (with_reducible repeat (first | refine bN ?_ _ | refine bD ?_ | refine bA ?_ _)); exact a0.out), (by (with_reducible repeat (first | refine bN ?_ _ | refine bD ?_ | refine bA ?_ _)); exact a2.out), (by (with_reducible repeat (first | refine bN ?_ _ | refine bD ?_ | refine bA ?_ _)); exact a6.out), (by (with_reducible repeat (first | refine bN ?_ _ | refine bD ?_ | refine bA ?_ _)); exact a7.out), d2.out, b2.out, b0.out, b8.out, b4.out, b6.out, c0.out, c3.out, d3.out, b3.out, b1.out, b9.out, b5.out, b7.out, (by repeat (first | (with_reducible first | exact HB.out | apply wA | apply wN | apply wD | refine wS ?_ a8.out | refine wS ?_ a9.out | refine wS ?_ b2.out | refine wS ?_ b3.out) | exact HB.out))⟩)
   ·skip
    rintro a4 w13 ⟨hS_, h0_, h1_, h2_, h3_, h4_, h5_, h6_, h7_, h8_, h9_⟩
    have n0_ : Aside0 (w13.heap[a1]? = some (.cells #[.int .i64 a0_0, .int .i64 a0_1, .int .i64 a0_2, .int .i64 a0_3] 44 (0, 0))) := ⟨h0_⟩
    have n1_ : Aside0 (w13.heap[a5]? = some (.cells #[.int .i64 0, .int .i64 0, .int .i64 0, .int .i64 0] 44 (0, 0))) := ⟨h1_⟩
    have n2_ : Aside0 (w13.heap[a4]? = some (.cells #[.int .i64 0, .int .i64 0] 23 (0, 0))) := ⟨h2_⟩
    have n3_ : Aside0 (w.heap.size ≤ a4) := ⟨h3_⟩
    have n4_ : Aside0 (w.heap.size ≤ a4) := ⟨h4_⟩
    have n5_ : Aside0 (a1 ≠ a4) := ⟨h5_⟩
    have n6_ : Aside0 (a4 ≠ a1) := ⟨h6_⟩
    have n7_ : Aside0 (a5 ≠ a4) := ⟨h7_⟩
    have n8_ : Aside0 (a4 ≠ a5) := ⟨h8_⟩
    have n9_ : Aside0 (Below w.heap.size w w13) := ⟨h9_⟩
    clear a0
    clear a2
    clear HB
    clear h0_ h1_ h2_ h3_ h4_ h5_ h6_ h7_ h8_ h9_
    have a0 := n0_
    have a2 := n1_
    have a7 := n2_
    have d3 := n3_
    have b3 := n4_
    have b1 := n5_
    have b9 := n6_
    have b5 := n7_
    have b7 := n8_
    have HB := n9_
    clear n0_ n1_ n2_ n3_ n4_ n5_ n6_ n7_ n8_ n9_
    have hHeld : w13.cell? ⟨a1, 0, none⟩ = some (.int .i64 a0_0) ∧ w13.cell? ⟨a1, 1, none⟩ = some (.int .i64 a0_1) ∧ w13.cell? ⟨a1, 2, none⟩ = some (.int .i64 a0_2) ∧ w13.cell? ⟨a1, 3, none⟩ = some (.int .i64 a0_3) := hS_
    refine norm_ (a' := ?_) ?_ ?_
    rotate_left
    ·simp only [putAll, Act.put, List.setIfInBounds_toArray, List.set_cons_zero, List.set_cons_succ]
     rfl
    refine one_ (i := 14) (N := some 3) #[true, true, true, true, true, true, true, true, true, true, true, true, true, true, true, true, false, false] rfl rfl (one_of HT_.out (by kernel_rfl)) (by decide) (fun K hK => ?_)
    refine box_step ?hg (N := 3) ?hd (cs := #[.int .i64 0, .int .i64 0]) (t := 23) ?hr ?_; (case hd => rfl); (case hg => rfl); (case hr => first | (go_simp; done) | (go_simp; rfl))
    intro a3 hg w14 hbox hb
    have n0_ := aM (bB (g := a1) (o := .cells #[.int .i64 a0_0, .int .i64 a0_1, .int .i64 a0_2, .int .i64 a0_3] 44 (0, 0)) (by (with_reducible repeat (first | refine bN ?_ _ | refine bD ?_ | refine bA ?_ _)); exact a0.out) hb)
    have n1_ := aM (bB (g := a5) (o := .cells #[.int .i64 0, .int .i64 0, .int .i64 0, .int .i64 0] 44 (0, 0)) (by (with_reducible repeat (first | refine bN ?_ _ | refine bD ?_ | refine bA ?_ _)); exact a2.out) hb)
    have n2_ := aM (bB (g := a4) (o := .cells #[.int .i64 0, .int .i64 0] 23 (0, 0)) (by (with_reducible repeat (first | refine bN ?_ _ | refine bD ?_ | refine bA ?_ _)); exact a7.out) hb)
    have n3_ := aM (wP (by repeat (first | (with_reducible first | exact HB.out | apply wA | apply wN | apply wD | refine wS ?_ a8.out | refine wS ?_ a9.out | refine wS ?_ b3.out) | exact HB.out)) hb)
    have n4_ := aM (hbox)
    have n5_ := aM ((by rw [hg]; exact (below_size (by repeat (first | (with_reducible first | exact HB.out | apply wA | apply wN | apply wD | refine wS ?_ a8.out | refine wS ?_ a9.out | refine wS ?_ b3.out) | exact HB.out))) : w.heap.size ≤ a3))
    have n6_ := aM ((by rw [hg]; exact (below_size (by repeat (first | (with_reducible first | exact HB.out | apply wA | apply wN | apply wD | refine wS ?_ a8.out | refine wS ?_ a9.out | refine wS ?_ b3.out) | exact HB.out))) : w.heap.size ≤ a3))
    have n7_ := aM ((by rw [hg]; exact Nat.ne_of_lt (bL (g := a1) (o := .cells #[.int .i64 a0_0, .int .i64 a0_1, .int .i64 a0_2, .int .i64 a0_3] 44 (0, 0)) (by (with_reducible repeat (first | refine bN ?_ _ | refine bD ?_ | refine bA ?_ _)); exact a0.out)) : a1 ≠ a3))
    have n8_ := aM ((by rw [hg]; exact Nat.ne_of_gt (bL (g := a1) (o := .cells #[.int .i64 a0_0, .int .i64 a0_1, .int .i64 a0_2, .int .i64 a0_3] 44 (0, 0)) (by (with_reducible repeat (first | refine bN ?_ _ | refine bD ?_ | refine bA ?_ _)); exact a0.out)) : a3 ≠ a1))
    have n9_ := aM ((by rw [hg]; exact Nat.ne_of_lt (bL (g := a5) (o := .cells #[.int .i64 0, .int .i64 0, .int .i64 0, .int .i64 0] 44 (0, 0)) (by (with_reducible repeat (first | refine bN ?_ _ | refine bD ?_ | refine bA ?_ _)); exact a2.out)) : a5 ≠ a3))
    have d4 := aM ((by rw [hg]; exact Nat.ne_of_gt (bL (g := a5) (o := .cells #[.int .i64 0, .int .i64 0, .int .i64 0, .int .i64 0] 44 (0, 0)) (by (with_reducible repeat (first | refine bN ?_ _ | refine bD ?_ | refine bA ?_ _)); exact a2.out)) : a3 ≠ a5))
    have d5 := aM ((by rw [hg]; exact Nat.ne_of_lt (bL (g := a4) (o := .cells #[.int .i64 0, .int .i64 0] 23 (0, 0)) (by (with_reducible repeat (first | refine bN ?_ _ | refine bD ?_ | refine bA ?_ _)); exact a7.out)) : a4 ≠ a3))
    have d6 := aM ((by rw [hg]; exact Nat.ne_of_gt (bL (g := a4) (o := .cells #[.int .i64 0, .int .i64 0] 23 (0, 0)) (by (with_reducible repeat (first | refine bN ?_ _ | refine bD ?_ | refine bA ?_ _)); exact a7.out)) : a3 ≠ a4))
    clear a0
    clear a2
    clear a7
    clear HB
    have a0 := n0_
    have a2 := n1_
    have a7 := n2_
    have HB := n3_
    have a6 := n4_
    have d2 := n5_
    have b2 := n6_
    have b0 := n7_
    have b8 := n8_
    have b4 := n9_
    have b6 := d4
    have c0 := d5
    have c3 := d6
    clear n0_ n1_ n2_ n3_ n4_ n5_ n6_ n7_ n8_ n9_ d4 d5 d6
    clear hb hbox hg
    refine hK.out _ _ ⟨(blk_cell a0.out 0).trans rfl, (blk_cell a0.out 1).trans rfl, (blk_cell a0.out 2).trans rfl, (blk_cell a0.out 3).trans rfl⟩ (fun hHeld => ?_)
    clear hK K
    refine norm_ (a' := ?_) ?_ ?_
    rotate_left
    ·show Act.put _ (some 3) _ = _
     simp only [Act.put, List.setIfInBounds_toArray, List.set_cons_zero, List.set_cons_succ, i64_w, i32_w]
     rfl
    exact norm_ (by first | (simp only [putAll, Act.put, List.setIfInBounds_toArray, List.set_cons_zero, List.set_cons_succ]; done) | (simp only [putAll, Act.put, List.setIfInBounds_toArray, List.set_cons_zero, List.set_cons_succ]; rfl)) (e0 (a3, a4) _ ⟨hHeld, (by (with_reducible repeat (first | refine bN ?_ _ | refine bD ?_ | refine bA ?_ _)); exact a0.out), (by (with_reducible repeat (first | refine bN ?_ _ | refine bD ?_ | refine bA ?_ _)); exact a2.out), (by (with_reducible repeat (first | refine bN ?_ _ | refine bD ?_ | refine bA ?_ _)); exact a6.out), (by (with_reducible repeat (first | refine bN ?_ _ | refine bD ?_ | refine bA ?_ _)); exact a7.out), d2.out, b2.out, b0.out, b8.out, b4.out, b6.out, c0.out, c3.out, d3.out, b3.out, b1.out, b9.out, b5.out, b7.out, (by repeat (first | (with_reducible first | exact HB.out | apply wA | apply wN | apply wD | refine wS ?_ a8.out | refine wS ?_ a9.out | refine wS ?_ b3.out | refine wS ?_ b2.out) | exact HB.out))⟩)
  ·skip
   rintro a3 w13 ⟨hS_, h0_, h1_, h2_, h3_, h4_, h5_, h6_, h7_, h8_, h9_⟩
   have n0_ : Aside0 (w13.heap[a1]? = some (.cells #[.int .i64 a0_0, .int .i64 a0_1, .int .i64 a0_2, .int .i64 a0_3] 44 (0, 0))) := ⟨h0_⟩
   have n1_ : Aside0 (w13.heap[a5]? = some (.cells #[.int .i64 0, .int .i64 0, .int .i64 0, .int .i64 0] 44 (0, 0))) := ⟨h1_⟩
   have n2_ : Aside0 (w13.heap[a3]? = some (.cells #[.int .i64 0, .int .i64 0] 23 (0, 0))) := ⟨h2_⟩
   have n3_ : Aside0 (w.heap.size ≤ a3) := ⟨h3_⟩
   have n4_ : Aside0 (w.heap.size ≤ a3) := ⟨h4_⟩
   have n5_ : Aside0 (a1 ≠ a3) := ⟨h5_⟩
   have n6_ : Aside0 (a3 ≠ a1) := ⟨h6_⟩
   have n7_ : Aside0 (a5 ≠ a3) := ⟨h7_⟩
   have n8_ : Aside0 (a3 ≠ a5) := ⟨h8_⟩
   have n9_ : Aside0 (Below w.heap.size w w13) := ⟨h9_⟩
   clear a0
   clear a2
   clear HB
   clear h0_ h1_ h2_ h3_ h4_ h5_ h6_ h7_ h8_ h9_
   have a0 := n0_
   have a2 := n1_
   have a6 := n2_
   have d2 := n3_
   have b2 := n4_
   have b0 := n5_
   have b8 := n6_
   have b4 := n7_
   have b6 := n8_
   have HB := n9_
   clear n0_ n1_ n2_ n3_ n4_ n5_ n6_ n7_ n8_ n9_
   have hHeld : w13.cell? ⟨a1, 0, none⟩ = some (.int .i64 a0_0) ∧ w13.cell? ⟨a1, 1, none⟩ = some (.int .i64 a0_1) ∧ w13.cell? ⟨a1, 2, none⟩ = some (.int .i64 a0_2) ∧ w13.cell? ⟨a1, 3, none⟩ = some (.int .i64 a0_3) := hS_
   refine norm_ (a' := ?_) ?_ ?_
   rotate_left
   ·simp only [putAll, Act.put, List.setIfInBounds_toArray, List.set_cons_zero, List.set_cons_succ]
    rfl
   refine one_ (i := 15) (N := some 4) #[true, true, true, true, true, true, true, true, true, true, true, true, true, true, true, true, false, false] rfl rfl (one_of HT_.out (by kernel_rfl)) (by decide) (fun K hK => ?_)
   refine box_step ?hg (N := 4) ?hd (cs := #[.int .i64 0, .int .i64 0]) (t := 23) ?hr ?_; (case hd => rfl); (case hg => rfl); (case hr => first | (go_simp; done) | (go_simp; rfl))
   intro a4 hg w14 hbox hb
   have n0_ := aM (bB (g := a1) (o := .cells #[.int .i64 a0_0, .int .i64 a0_1, .int .i64 a0_2, .int .i64 a0_3] 44 (0, 0)) (by (with_reducible repeat (first | refine bN ?_ _ | refine bD ?_ | refine bA ?_ _)); exact a0.out) hb)
   have n1_ := aM (bB (g := a5) (o := .cells #[.int .i64 0, .int .i64 0, .int .i64 0, .int .i64 0] 44 (0, 0)) (by (with_reducible repeat (first | refine bN ?_ _ | refine bD ?_ | refine bA ?_ _)); exact a2.out) hb)
   have n2_ := aM (bB (g := a3) (o := .cells #[.int .i64 0, .int .i64 0] 23 (0, 0)) (by (with_reducible repeat (first | refine bN ?_ _ | refine bD ?_ | refine bA ?_ _)); exact a6.out) hb)
   have n3_ := aM (wP (by repeat (first | (with_reducible first | exact HB.out | apply wA | apply wN | apply wD | refine wS ?_ a8.out | refine wS ?_ a9.out | refine wS ?_ b2.out) | exact HB.out)) hb)
   have n4_ := aM (hbox)
   have n5_ := aM ((by rw [hg]; exact (below_size (by repeat (first | (with_reducible first | exact HB.out | apply wA | apply wN | apply wD | refine wS ?_ a8.out | refine wS ?_ a9.out | refine wS ?_ b2.out) | exact HB.out))) : w.heap.size ≤ a4))
   have n6_ := aM ((by rw [hg]; exact (below_size (by repeat (first | (with_reducible first | exact HB.out | apply wA | apply wN | apply wD | refine wS ?_ a8.out | refine wS ?_ a9.out | refine wS ?_ b2.out) | exact HB.out))) : w.heap.size ≤ a4))
   have n7_ := aM ((by rw [hg]; exact Nat.ne_of_lt (bL (g := a1) (o := .cells #[.int .i64 a0_0, .int .i64 a0_1, .int .i64 a0_2, .int .i64 a0_3] 44 (0, 0)) (by (with_reducible repeat (first | refine bN ?_ _ | refine bD ?_ | refine bA ?_ _)); exact a0.out)) : a1 ≠ a4))
   have n8_ := aM ((by rw [hg]; exact Nat.ne_of_gt (bL (g := a1) (o := .cells #[.int .i64 a0_0, .int .i64 a0_1, .int .i64 a0_2, .int .i64 a0_3] 44 (0, 0)) (by (with_reducible repeat (first | refine bN ?_ _ | refine bD ?_ | refine bA ?_ _)); exact a0.out)) : a4 ≠ a1))
   have n9_ := aM ((by rw [hg]; exact Nat.ne_of_lt (bL (g := a5) (o := .cells #[.int .i64 0, .int .i64 0, .int .i64 0, .int .i64 0] 44 (0, 0)) (by (with_reducible repeat (first | refine bN ?_ _ | refine bD ?_ | refine bA ?_ _)); exact a2.out)) : a5 ≠ a4))
   have d4 := aM ((by rw [hg]; exact Nat.ne_of_gt (bL (g := a5) (o := .cells #[.int .i64 0, .int .i64 0, .int .i64 0, .int .i64 0] 44 (0, 0)) (by (with_reducible repeat (first | refine bN ?_ _ | refine bD ?_ | refine bA ?_ _)); exact a2.out)) : a4 ≠ a5))
   have d5 := aM ((by rw [hg]; exact Nat.ne_of_lt (bL (g := a3) (o := .cells #[.int .i64 0, .int .i64 0] 23 (0, 0)) (by (with_reducible repeat (first | refine bN ?_ _ | refine bD ?_ | refine bA ?_ _)); exact a6.out)) : a3 ≠ a4))
   have d6 := aM ((by rw [hg]; exact Nat.ne_of_gt (bL (g := a3) (o := .cells #[.int .i64 0, .int .i64 0] 23 (0, 0)) (by (with_reducible repeat (first | refine bN ?_ _ | refine bD ?_ | refine bA ?_ _)); exact a6.out)) : a4 ≠ a3))
   clear a0
   clear a2
   clear a6
   clear HB
   have a0 := n0_
   have a2 := n1_
   have a6 := n2_
   have HB := n3_
   have a7 := n4_
   have d3 := n5_
   have b3 := n6_
   have b1 := n7_
   have b9 := n8_
   have b5 := n9_
   have b7 := d4
   have c3 := d5
   have c0 := d6
   clear n0_ n1_ n2_ n3_ n4_ n5_ n6_ n7_ n8_ n9_ d4 d5 d6
   clear hb hbox hg
   refine hK.out _ _ ⟨(blk_cell a0.out 0).trans rfl, (blk_cell a0.out 1).trans rfl, (blk_cell a0.out 2).trans rfl, (blk_cell a0.out 3).trans rfl⟩ (fun hHeld => ?_)
   clear hK K
   refine norm_ (a' := ?_) ?_ ?_
   rotate_left
   ·show Act.put _ (some 4) _ = _
    simp only [Act.put, List.setIfInBounds_toArray, List.set_cons_zero, List.set_cons_succ, i64_w, i32_w]
    rfl
   exact norm_ (by first | (simp only [putAll, Act.put, List.setIfInBounds_toArray, List.set_cons_zero, List.set_cons_succ]; done) | (simp only [putAll, Act.put, List.setIfInBounds_toArray, List.set_cons_zero, List.set_cons_succ]; rfl)) (e0 (a3, a4) _ ⟨hHeld, (by (with_reducible repeat (first | refine bN ?_ _ | refine bD ?_ | refine bA ?_ _)); exact a0.out), (by (with_reducible repeat (first | refine bN ?_ _ | refine bD ?_ | refine bA ?_ _)); exact a2.out), (by (with_reducible repeat (first | refine bN ?_ _ | refine bD ?_ | refine bA ?_ _)); exact a6.out), (by (with_reducible repeat (first | refine bN ?_ _ | refine bD ?_ | refine bA ?_ _)); exact a7.out), d2.out, b2.out, b0.out, b8.out, b4.out, b6.out, c0.out, c3.out, d3.out, b3.out, b1.out, b9.out, b5.out, b7.out, (by repeat (first | (with_reducible first | exact HB.out | apply wA | apply wN | apply wD | refine wS ?_ a8.out | refine wS ?_ a9.out | refine wS ?_ b2.out | refine wS ?_ b3.out) | exact HB.out))⟩)
 rintro ⟨a3, a4⟩ w14 ⟨hS_, h0_, h1_, h2_, h3_, h4_, h5_, h6_, h7_, h8_, h9_, e4, e5, e6, e7, e8, e9, f0, f1, f2⟩
 have n0_ : Aside0 (w14.heap[a1]? = some (.cells #[.int .i64 a0_0, .int .i64 a0_1, .int .i64 a0_2, .int .i64 a0_3] 44 (0, 0))) := ⟨h0_⟩
 have n1_ : Aside0 (w14.heap[a5]? = some (.cells #[.int .i64 0, .int .i64 0, .int .i64 0, .int .i64 0] 44 (0, 0))) := ⟨h1_⟩
 have n2_ : Aside0 (w14.heap[a3]? = some (.cells #[.int .i64 0, .int .i64 0] 23 (0, 0))) := ⟨h2_⟩
 have n3_ : Aside0 (w14.heap[a4]? = some (.cells #[.int .i64 0, .int .i64 0] 23 (0, 0))) := ⟨h3_⟩
 have n4_ : Aside0 (w.heap.size ≤ a3) := ⟨h4_⟩
 have n5_ : Aside0 (w.heap.size ≤ a3) := ⟨h5_⟩
 have n6_ : Aside0 (a1 ≠ a3) := ⟨h6_⟩
 have n7_ : Aside0 (a3 ≠ a1) := ⟨h7_⟩
 have n8_ : Aside0 (a5 ≠ a3) := ⟨h8_⟩
 have n9_ : Aside0 (a3 ≠ a5) := ⟨h9_⟩
 have d4 : Aside0 (a4 ≠ a3) := ⟨e4⟩
 have d5 : Aside0 (a3 ≠ a4) := ⟨e5⟩
 have d6 : Aside0 (w.heap.size ≤ a4) := ⟨e6⟩
 have f3 : Aside0 (w.heap.size ≤ a4) := ⟨e7⟩
 have f4 : Aside0 (a1 ≠ a4) := ⟨e8⟩
 have f5 : Aside0 (a4 ≠ a1) := ⟨e9⟩
 have f6 : Aside0 (a5 ≠ a4) := ⟨f0⟩
 have f7 : Aside0 (a4 ≠ a5) := ⟨f1⟩
 have f8 : Aside0 (Below w.heap.size w w14) := ⟨f2⟩
 clear a0
 clear a2
 clear HB
 clear h0_ h1_ h2_ h3_ h4_ h5_ h6_ h7_ h8_ h9_ e4 e5 e6 e7 e8 e9 f0 f1 f2
 have a0 := n0_
 have a2 := n1_
 have a6 := n2_
 have a7 := n3_
 have d2 := n4_
 have b2 := n5_
 have b0 := n6_
 have b8 := n7_
 have b4 := n8_
 have b6 := n9_
 have c0 := d4
 have c3 := d5
 have d3 := d6
 have b3 := f3
 have b1 := f4
 have b9 := f5
 have b5 := f6
 have b7 := f7
 have HB := f8
 clear n0_ n1_ n2_ n3_ n4_ n5_ n6_ n7_ n8_ n9_ d4 d5 d6 f3 f4 f5 f6 f7 f8
 have hHeld : w14.cell? ⟨a1, 0, none⟩ = some (.int .i64 a0_0) ∧ w14.cell? ⟨a1, 1, none⟩ = some (.int .i64 a0_1) ∧ w14.cell? ⟨a1, 2, none⟩ = some (.int .i64 a0_2) ∧ w14.cell? ⟨a1, 3, none⟩ = some (.int .i64 a0_3) := hS_
 refine norm_ (a' := ?_) ?_ ?_
 rotate_left
 ·simp only [putAll, Act.put, List.setIfInBounds_toArray, List.set_cons_zero, List.set_cons_succ]
  rfl
 refine one_ (i := 16) (N := none) #[true, true, true, true, true, true, true, true, true, true, true, true, true, true, true, true, true, false] rfl rfl (one_of HT_.out (by kernel_rfl)) (by decide) (fun K hK => ?_)
 have t4 : w14.cell? ⟨a3, 0, none⟩ = some (.int .i64 0) := (blk_cell a6.out 0).trans rfl
 have p1 := blk_frozen a6.out 0
 have j1 := b0.out
 have j2 := b4.out
 have j3 := c0.out
 have j4 := b8.out
 have j5 := b6.out
 have j6 := c3.out
 have t5 : w14.cell? ⟨a3, 1, none⟩ = some (.int .i64 0) := (blk_cell a6.out 1).trans rfl
 have p3 := blk_frozen a6.out 1
 have j7 := b0.out
 have j8 := b4.out
 have j9 := c0.out
 have l0 := b8.out
 have l1 := b6.out
 have l2 := c3.out
 refine skip_ (w1 := ?_) (by rfl) rfl ?_ ?_
 rotate_left
 ·go_simp
  rfl
 refine hK.out _ _ ⟨((cell_far (p := ⟨a3, _, none⟩) b0.out _).trans (((cell_far (p := ⟨a3, _, none⟩) b0.out _).trans (hHeld.1)))), ((cell_far (p := ⟨a3, _, none⟩) b0.out _).trans (((cell_far (p := ⟨a3, _, none⟩) b0.out _).trans (hHeld.2.1)))), ((cell_far (p := ⟨a3, _, none⟩) b0.out _).trans (((cell_far (p := ⟨a3, _, none⟩) b0.out _).trans (hHeld.2.2.1)))), ((cell_far (p := ⟨a3, _, none⟩) b0.out _).trans (((cell_far (p := ⟨a3, _, none⟩) b0.out _).trans (hHeld.2.2.2))))⟩ (fun hHeld => ?_)
 clear hK K
 refine one_ (i := 17) (N := none) #[true, true, true, true, true, true, true, true, true, true, true, true, true, true, true, true, true, true] rfl rfl (one_of HT_.out (by kernel_rfl)) (by decide) (fun K hK => ?_)
 have t6 : w14.cell? ⟨a4, 0, none⟩ = some (.int .i64 0) := (blk_cell a7.out 0).trans rfl
 have p4 := blk_frozen a7.out 0
 have l3 := b1.out
 have l4 := b5.out
 have l5 := c3.out
 have l6 := b9.out
 have l7 := b7.out
 have l8 := c0.out
 have t7 : w14.cell? ⟨a4, 1, none⟩ = some (.int .i64 0) := (blk_cell a7.out 1).trans rfl
 have p5 := blk_frozen a7.out 1
 have l9 := b1.out
 have m0 := b5.out
 have m1 := c3.out
 have m2 := b9.out
 have m3 := b7.out
 have m4 := c0.out
 refine skip_ (w1 := ?_) (by rfl) rfl ?_ ?_
 rotate_left
 ·go_simp
  rfl
 refine hK.out _ _ ⟨((cell_far (p := ⟨a4, _, none⟩) b1.out _).trans (((cell_far (p := ⟨a4, _, none⟩) b1.out _).trans (hHeld.1)))), ((cell_far (p := ⟨a4, _, none⟩) b1.out _).trans (((cell_far (p := ⟨a4, _, none⟩) b1.out _).trans (hHeld.2.1)))), ((cell_far (p := ⟨a4, _, none⟩) b1.out _).trans (((cell_far (p := ⟨a4, _, none⟩) b1.out _).trans (hHeld.2.2.1)))), ((cell_far (p := ⟨a4, _, none⟩) b1.out _).trans (((cell_far (p := ⟨a4, _, none⟩) b1.out _).trans (hHeld.2.2.2))))⟩ (fun hHeld => ?_)
 clear hK K
 refine done_ (done_of HT_.out (by kernel_rfl)) ?_
 try go_wp2
 have n0_ : Aside0 (((((w14.setCell ⟨a3, 0, none⟩ (.int .i64 c8)).setCell ⟨a3, 1, none⟩ (.int .i64 c9)).setCell ⟨a4, 0, none⟩ (.int .i64 d0)).setCell ⟨a4, 1, none⟩ (.int .i64 d1)).heap[a1]? = some (.cells #[.int .i64 a0_0, .int .i64 a0_1, .int .i64 a0_2, .int .i64 a0_3] 44 (0, 0))) := ⟨by (with_reducible repeat (first | refine bN ?_ _ | refine bD ?_ | refine bA ?_ _)); refine blk_far ?_ b1.out _; (with_reducible repeat (first | refine bN ?_ _ | refine bD ?_ | refine bA ?_ _)); refine blk_far ?_ b1.out _; (with_reducible repeat (first | refine bN ?_ _ | refine bD ?_ | refine bA ?_ _)); refine blk_far ?_ b0.out _; (with_reducible repeat (first | refine bN ?_ _ | refine bD ?_ | refine bA ?_ _)); refine blk_far ?_ b0.out _; (with_reducible repeat (first | refine bN ?_ _ | refine bD ?_ | refine bA ?_ _)); exact a0.out⟩
 have n1_ : Aside0 (((((w14.setCell ⟨a3, 0, none⟩ (.int .i64 c8)).setCell ⟨a3, 1, none⟩ (.int .i64 c9)).setCell ⟨a4, 0, none⟩ (.int .i64 d0)).setCell ⟨a4, 1, none⟩ (.int .i64 d1)).heap[a5]? = some (.cells #[.int .i64 0, .int .i64 0, .int .i64 0, .int .i64 0] 44 (0, 0))) := ⟨by (with_reducible repeat (first | refine bN ?_ _ | refine bD ?_ | refine bA ?_ _)); refine blk_far ?_ b5.out _; (with_reducible repeat (first | refine bN ?_ _ | refine bD ?_ | refine bA ?_ _)); refine blk_far ?_ b5.out _; (with_reducible repeat (first | refine bN ?_ _ | refine bD ?_ | refine bA ?_ _)); refine blk_far ?_ b4.out _; (with_reducible repeat (first | refine bN ?_ _ | refine bD ?_ | refine bA ?_ _)); refine blk_far ?_ b4.out _; (with_reducible repeat (first | refine bN ?_ _ | refine bD ?_ | refine bA ?_ _)); exact a2.out⟩
 have n2_ : Aside0 (((((w14.setCell ⟨a3, 0, none⟩ (.int .i64 c8)).setCell ⟨a3, 1, none⟩ (.int .i64 c9)).setCell ⟨a4, 0, none⟩ (.int .i64 d0)).setCell ⟨a4, 1, none⟩ (.int .i64 d1)).heap[a3]? = some (.cells #[.int .i64 c8, .int .i64 c9] 23 (0, 0))) := ⟨by (with_reducible repeat (first | refine bN ?_ _ | refine bD ?_ | refine bA ?_ _)); refine blk_far ?_ c3.out _; (with_reducible repeat (first | refine bN ?_ _ | refine bD ?_ | refine bA ?_ _)); refine blk_far ?_ c3.out _; (with_reducible repeat (first | refine bN ?_ _ | refine bD ?_ | refine bA ?_ _)); refine blk_put (cs := #[.int .i64 c8, .int .i64 0]) ?_ 1 _ rfl; (with_reducible repeat (first | refine bN ?_ _ | refine bD ?_ | refine bA ?_ _)); refine blk_put (cs := #[.int .i64 0, .int .i64 0]) ?_ 0 _ rfl; (with_reducible repeat (first | refine bN ?_ _ | refine bD ?_ | refine bA ?_ _)); exact a6.out⟩
 have n3_ : Aside0 (((((w14.setCell ⟨a3, 0, none⟩ (.int .i64 c8)).setCell ⟨a3, 1, none⟩ (.int .i64 c9)).setCell ⟨a4, 0, none⟩ (.int .i64 d0)).setCell ⟨a4, 1, none⟩ (.int .i64 d1)).heap[a4]? = some (.cells #[.int .i64 d0, .int .i64 d1] 23 (0, 0))) := ⟨by (with_reducible repeat (first | refine bN ?_ _ | refine bD ?_ | refine bA ?_ _)); refine blk_put (cs := #[.int .i64 d0, .int .i64 0]) ?_ 1 _ rfl; (with_reducible repeat (first | refine bN ?_ _ | refine bD ?_ | refine bA ?_ _)); refine blk_put (cs := #[.int .i64 0, .int .i64 0]) ?_ 0 _ rfl; (with_reducible repeat (first | refine bN ?_ _ | refine bD ?_ | refine bA ?_ _)); refine blk_far ?_ c0.out _; (with_reducible repeat (first | refine bN ?_ _ | refine bD ?_ | refine bA ?_ _)); refine blk_far ?_ c0.out _; (with_reducible repeat (first | refine bN ?_ _ | refine bD ?_ | refine bA ?_ _)); exact a7.out⟩
 have n4_ : Aside0 (Below w.heap.size w ((((w14.setCell ⟨a3, 0, none⟩ (.int .i64 c8)).setCell ⟨a3, 1, none⟩ (.int .i64 c9)).setCell ⟨a4, 0, none⟩ (.int .i64 d0)).setCell ⟨a4, 1, none⟩ (.int .i64 d1))) := ⟨by repeat (first | (with_reducible first | exact HB.out | apply wA | apply wN | apply wD | refine wS ?_ a8.out | refine wS ?_ a9.out | refine wS ?_ b2.out | refine wS ?_ b3.out) | exact HB.out)⟩
 (try clear a0)
 (try clear a2)
 (try clear a6)
 (try clear a7)
 (try clear HB)
 generalize ((((w14.setCell ⟨a3, 0, none⟩ (.int .i64 c8)).setCell ⟨a3, 1, none⟩ (.int .i64 c9)).setCell ⟨a4, 0, none⟩ (.int .i64 d0)).setCell ⟨a4, 1, none⟩ (.int .i64 d1)) = w19 at n0_ n1_ n2_ n3_ n4_ ⊢
 have a0 := n0_
 have a2 := n1_
 have a6 := n2_
 have a7 := n3_
 have HB := n4_
 clear n0_ n1_ n2_ n3_ n4_
 have n0_ := aM (bD a0.out)
 have n1_ := aM (bD a2.out)
 have n2_ := aM (bD a6.out)
 have n3_ := aM (bD a7.out)
 have n4_ := aM (wD HB.out)
 clear a0
 clear a2
 clear a6
 clear a7
 clear HB
 have a0 := n0_
 have a2 := n1_
 have a6 := n2_
 have a7 := n3_
 have HB := n4_
 clear n0_ n1_ n2_ n3_ n4_
 refine start_ (n := 5) (S := fun w' => w'.cell? ⟨a3, 0, none⟩ = some (.int .i64 c8) ∧ w'.cell? ⟨a3, 1, none⟩ = some (.int .i64 c9) ∧ w'.cell? ⟨a4, 0, none⟩ = some (.int .i64 d0) ∧ w'.cell? ⟨a4, 1, none⟩ = some (.int .i64 d1)) (ds := []) #[false, false, false, false, false] (by kernel_rfl) rfl rfl ⟨(blk_cell a6.out 0).trans rfl, (blk_cell a6.out 1).trans rfl, (blk_cell a7.out 0).trans rfl, (blk_cell a7.out 1).trans rfl⟩ (fun hHeld => ?_)
 generalize w19.drew = w20 at a0 a2 a6 a7 HB hHeld ⊢
 refine take_ (i := 0) (N := some 19) (v := ?_) (a' := ?_) #[true, false, false, false, false] rfl rfl (by kernel_rfl) (fun _ _ _ h => h) (Or.inl ⟨by rfl, ?_⟩) hHeld ?_ ?_
 rotate_left
 ·rintro w' ⟨s0, s1, s2, s3⟩
  go_simp
  with_reducible rfl
 rotate_left
 ·simp only [Act.put, List.setIfInBounds_toArray, List.set_cons_zero, List.set_cons_succ, i64_w, i32_w]
  rfl
 refine take_ (i := 2) (N := some 21) (v := ?_) (a' := ?_) #[true, false, true, false, false] rfl rfl (by kernel_rfl) (fun _ _ _ h => h) (Or.inl ⟨by rfl, ?_⟩) hHeld ?_ ?_
 rotate_left
 ·rintro w' ⟨s0, s1, s2, s3⟩
  go_simp
  with_reducible rfl
 rotate_left
 ·simp only [Act.put, List.setIfInBounds_toArray, List.set_cons_zero, List.set_cons_succ, i64_w, i32_w]
  rfl
 refine one_ (i := 1) (N := some 20) #[true, true, true, false, false] rfl rfl (by kernel_rfl) (by decide) (fun K hK => ?_)
 refine goes_ Tryd.func13 (by kernel_rfl) rfl #[.agg #[.int .i64 c8, .int .i64 c9]] (by rfl) rfl rfl (by (try simp only [List.map_toArray, List.map_cons, List.map_nil]); first | done | rfl | (simp only [List.length_drop, List.length_take]; rfl)) ?_
 with_reducible refine (spec_RGPlace.calls k c8 c9 d9 _ A4.out).mono ?_
 rintro e w21 ⟨rfl, hb⟩
 refine ⟨_, rfl, ?_⟩
 have n0_ := aM (bB (g := a1) (o := .cells #[.int .i64 a0_0, .int .i64 a0_1, .int .i64 a0_2, .int .i64 a0_3] 44 (0, 0)) (by (with_reducible repeat (first | refine bN ?_ _ | refine bD ?_ | refine bA ?_ _)); exact a0.out) hb)
 have n1_ := aM (bB (g := a5) (o := .cells #[.int .i64 0, .int .i64 0, .int .i64 0, .int .i64 0] 44 (0, 0)) (by (with_reducible repeat (first | refine bN ?_ _ | refine bD ?_ | refine bA ?_ _)); exact a2.out) hb)
 have n2_ := aM (bB (g := a3) (o := .cells #[.int .i64 c8, .int .i64 c9] 23 (0, 0)) (by (with_reducible repeat (first | refine bN ?_ _ | refine bD ?_ | refine bA ?_ _)); exact a6.out) hb)
 have n3_ := aM (bB (g := a4) (o := .cells #[.int .i64 d0, .int .i64 d1] 23 (0, 0)) (by (with_reducible repeat (first | refine bN ?_ _ | refine bD ?_ | refine bA ?_ _)); exact a7.out) hb)
 have n4_ := aM (wP (by repeat (first | (with_reducible first | exact HB.out | apply wA | apply wN | apply wD | refine wS ?_ a8.out | refine wS ?_ a9.out | refine wS ?_ b2.out | refine wS ?_ b3.out) | exact HB.out)) hb)
 clear a0
 clear a2
 clear a6
 clear a7
 clear HB
 have a0 := n0_
 have a2 := n1_
 have a6 := n2_
 have a7 := n3_
 have HB := n4_
 clear n0_ n1_ n2_ n3_ n4_
 (try clear hb)
 (try clear hb2)
 (try clear hk)
 (try clear hi)
 refine hK.out _ _ ⟨(blk_cell a6.out 0).trans rfl, (blk_cell a6.out 1).trans rfl, (blk_cell a7.out 0).trans rfl, (blk_cell a7.out 1).trans rfl⟩ (fun hHeld => ?_)
 clear hK K
 refine norm_ (a' := ?_) ?_ ?_
 rotate_left
 ·show Act.put _ (some 20) _ = _
  simp only [Act.put, List.setIfInBounds_toArray, List.set_cons_zero, List.set_cons_succ, i64_w, i32_w]
  rfl
 refine one_ (i := 3) (N := some 22) #[true, true, true, true, false] rfl rfl (by kernel_rfl) (by decide) (fun K hK => ?_)
 refine goes_ Tryd.func13 (by kernel_rfl) rfl #[.agg #[.int .i64 d0, .int .i64 d1]] (by rfl) rfl rfl (by (try simp only [List.map_toArray, List.map_cons, List.map_nil]); first | done | rfl | (simp only [List.length_drop, List.length_take]; rfl)) ?_
 with_reducible refine (spec_RGPlace.calls k d0 d1 d8 _ A5.out).mono ?_
 rintro e w22 ⟨rfl, hb⟩
 refine ⟨_, rfl, ?_⟩
 have n0_ := aM (bB (g := a1) (o := .cells #[.int .i64 a0_0, .int .i64 a0_1, .int .i64 a0_2, .int .i64 a0_3] 44 (0, 0)) (by (with_reducible repeat (first | refine bN ?_ _ | refine bD ?_ | refine bA ?_ _)); exact a0.out) hb)
 have n1_ := aM (bB (g := a5) (o := .cells #[.int .i64 0, .int .i64 0, .int .i64 0, .int .i64 0] 44 (0, 0)) (by (with_reducible repeat (first | refine bN ?_ _ | refine bD ?_ | refine bA ?_ _)); exact a2.out) hb)
 have n2_ := aM (bB (g := a3) (o := .cells #[.int .i64 c8, .int .i64 c9] 23 (0, 0)) (by (with_reducible repeat (first | refine bN ?_ _ | refine bD ?_ | refine bA ?_ _)); exact a6.out) hb)
 have n3_ := aM (bB (g := a4) (o := .cells #[.int .i64 d0, .int .i64 d1] 23 (0, 0)) (by (with_reducible repeat (first | refine bN ?_ _ | refine bD ?_ | refine bA ?_ _)); exact a7.out) hb)
 have n4_ := aM (wP (by repeat (first | (with_reducible first | exact HB.out | apply wA | apply wN | apply wD | refine wS ?_ a8.out | refine wS ?_ a9.out | refine wS ?_ b2.out | refine wS ?_ b3.out) | exact HB.out)) hb)
 clear a0
 clear a2
 clear a6
 clear a7
 clear HB
 have a0 := n0_
 have a2 := n1_
 have a6 := n2_
 have a7 := n3_
 have HB := n4_
 clear n0_ n1_ n2_ n3_ n4_
 (try clear hb)
 (try clear hb2)
 (try clear hk)
 (try clear hi)
 refine hK.out _ _ ⟨(blk_cell a6.out 0).trans rfl, (blk_cell a6.out 1).trans rfl, (blk_cell a7.out 0).trans rfl, (blk_cell a7.out 1).trans rfl⟩ (fun hHeld => ?_)
 clear hK K
 refine norm_ (a' := ?_) ?_ ?_
 rotate_left
 ·show Act.put _ (some 22) _ = _
  simp only [Act.put, List.setIfInBounds_toArray, List.set_cons_zero, List.set_cons_succ, i64_w, i32_w]
  rfl
 refine pure_ (i := 4) (N := some 23) (v := ?_) (a' := ?_) #[true, true, true, true, true] rfl rfl (by kernel_rfl) (fun _ _ _ h => h) (Or.inl ⟨by rfl, ?_⟩) ?_ ?_
 rotate_left
 ·intro w'
  go_simp
  with_reducible rfl
 rotate_left
 ·simp only [Act.put, List.setIfInBounds_toArray, List.set_cons_zero, List.set_cons_succ, i64_w, i32_w]
  rfl
 refine done_ (by kernel_rfl) ?_
 go_upto_if 23 with (fail)
 go_cut [] (fun wc => ∃ (kq : Nat) (c4 : Int) (c5 : Int) (c6 : Int) (c7 : Int), Aside0 (laws_rgFull.j0 kq c4 c5 c6 c7 = some (r1, r2, r3, r4)) ∧ Aside0 (kq ≤ k) ∧ Aside0 (wc.heap[a1]? = some (.cells #[.int .i64 a0_0, .int .i64 a0_1, .int .i64 a0_2, .int .i64 a0_3] 44 (0, 0))) ∧ Aside0 (wc.heap[a5]? = some (.cells #[.int .i64 0, .int .i64 0, .int .i64 0, .int .i64 0] 44 (0, 0))) ∧ Aside0 (wc.heap[a3]? = some (.cells #[.int .i64 c4, .int .i64 c5] 23 (0, 0))) ∧ Aside0 (wc.heap[a4]? = some (.cells #[.int .i64 c6, .int .i64 c7] 23 (0, 0))) ∧ Aside0 (Below w.heap.size w wc))
 case first =>
  have H := HC6.out
  clear HC6
  by_cases c23 : d9 > d8
  ·rw [if_pos c23] at H
   have c23b0 : decide (d8 < d9) = true := decide_eq_true c23
   clear c23
   (first | rw [c23b0] | (simp only [i64_w, i32_w]; rw [c23b0]) | skip)
   have H' := aM H
   clear H
   have p6 := b9.out
   have p7 := b1.out
   have p8 := b7.out
   have p9 := b5.out
   have q0 := c0.out
   have q1 := c3.out
   have g7 : w22.cell? ⟨a4, 0, none⟩ = some (.int .i64 d0) := (blk_cell a7.out 0).trans rfl
   have g8 : w22.cell? ⟨a4, 1, none⟩ = some (.int .i64 d1) := (blk_cell a7.out 1).trans rfl
   have g9 := blk_frozen a7.out 0
   have h0 := blk_frozen a7.out 1
   have q2 := b8.out
   have q3 := b0.out
   have q4 := b6.out
   have q5 := b4.out
   have h1 : w22.cell? ⟨a3, 0, none⟩ = some (.int .i64 c8) := (blk_cell a6.out 0).trans rfl
   have h2 : w22.cell? ⟨a3, 1, none⟩ = some (.int .i64 c9) := (blk_cell a6.out 1).trans rfl
   have h3 := blk_frozen a6.out 0
   have h4 := blk_frozen a6.out 1
   go_wp2
   go_meet
   case rel => exact ⟨_, (d0), (d1), (c8), (c9), H', ⟨by first | omega | exact Nat.le_refl _⟩, ⟨by (with_reducible repeat (first | refine bN ?_ _ | refine bD ?_ | refine bA ?_ _)); refine blk_far ?_ b1.out _; (with_reducible repeat (first | refine bN ?_ _ | refine bD ?_ | refine bA ?_ _)); refine blk_far ?_ b1.out _; (with_reducible repeat (first | refine bN ?_ _ | refine bD ?_ | refine bA ?_ _)); refine blk_far ?_ b0.out _; (with_reducible repeat (first | refine bN ?_ _ | refine bD ?_ | refine bA ?_ _)); refine blk_far ?_ b0.out _; (with_reducible repeat (first | refine bN ?_ _ | refine bD ?_ | refine bA ?_ _)); exact a0.out⟩, ⟨by (with_reducible repeat (first | refine bN ?_ _ | refine bD ?_ | refine bA ?_ _)); refine blk_far ?_ b5.out _; (with_reducible repeat (first | refine bN ?_ _ | refine bD ?_ | refine bA ?_ _)); refine blk_far ?_ b5.out _; (with_reducible repeat (first | refine bN ?_ _ | refine bD ?_ | refine bA ?_ _)); refine blk_far ?_ b4.out _; (with_reducible repeat (first | refine bN ?_ _ | refine bD ?_ | refine bA ?_ _)); refine blk_far ?_ b4.out _; (with_reducible repeat (first | refine bN ?_ _ | refine bD ?_ | refine bA ?_ _)); exact a2.out⟩, ⟨by (with_reducible repeat (first | refine bN ?_ _ | refine bD ?_ | refine bA ?_ _)); refine blk_far ?_ c3.out _; (with_reducible repeat (first | refine bN ?_ _ | refine bD ?_ | refine bA ?_ _)); refine blk_far ?_ c3.out _; (with_reducible repeat (first | refine bN ?_ _ | refine bD ?_ | refine bA ?_ _)); refine blk_put (cs := #[.int .i64 d0, .int .i64 c9]) ?_ 1 _ rfl; (with_reducible repeat (first | refine bN ?_ _ | refine bD ?_ | refine bA ?_ _)); refine blk_put (cs := #[.int .i64 c8, .int .i64 c9]) ?_ 0 _ rfl; (with_reducible repeat (first | refine bN ?_ _ | refine bD ?_ | refine bA ?_ _)); exact a6.out⟩, ⟨by (with_reducible repeat (first | refine bN ?_ _ | refine bD ?_ | refine bA ?_ _)); refine blk_put (cs := #[.int .i64 c8, .int .i64 d1]) ?_ 1 _ rfl; (with_reducible repeat (first | refine bN ?_ _ | refine bD ?_ | refine bA ?_ _)); refine blk_put (cs := #[.int .i64 d0, .int .i64 d1]) ?_ 0 _ rfl; (with_reducible repeat (first | refine bN ?_ _ | refine bD ?_ | refine bA ?_ _)); refine blk_far ?_ c0.out _; (with_reducible repeat (first | refine bN ?_ _ | refine bD ?_ | refine bA ?_ _)); refine blk_far ?_ c0.out _; (with_reducible repeat (first | refine bN ?_ _ | refine bD ?_ | refine bA ?_ _)); exact a7.out⟩, ⟨by repeat (first | (with_reducible first | exact HB.out | apply wA | apply wN | apply wD | refine wS ?_ a8.out | refine wS ?_ a9.out | refine wS ?_ b2.out | refine wS ?_ b3.out) | exact HB.out)⟩⟩
  ·rw [if_neg c23] at H
   have c23b0 : decide (d8 < d9) = false := decide_eq_false c23
   clear c23
   (first | rw [c23b0] | (simp only [i64_w, i32_w]; rw [c23b0]) | skip)
   have H' := aM H
   clear H
   go_wp2
   go_meet
   case rel => exact ⟨_, (c8), (c9), (d0), (d1), H', ⟨by first | omega | exact Nat.le_refl _⟩, ⟨by (with_reducible repeat (first | refine bN ?_ _ | refine bD ?_ | refine bA ?_ _)); exact a0.out⟩, ⟨by (with_reducible repeat (first | refine bN ?_ _ | refine bD ?_ | refine bA ?_ _)); exact a2.out⟩, ⟨by (with_reducible repeat (first | refine bN ?_ _ | refine bD ?_ | refine bA ?_ _)); exact a6.out⟩, ⟨by (with_reducible repeat (first | refine bN ?_ _ | refine bD ?_ | refine bA ?_ _)); exact a7.out⟩, ⟨by repeat (first | (with_reducible first | exact HB.out | apply wA | apply wN | apply wD | refine wS ?_ a8.out | refine wS ?_ a9.out | refine wS ?_ b2.out | refine wS ?_ b3.out) | exact HB.out)⟩⟩
 case rest =>
  clear HC6
  try clear c1
  try clear c2
  try clear p2
  try clear c10
  try clear c13
  try clear c23
  try clear c23b0
  try clear c24
  try clear c25
  try clear c26
  try clear c28
  try clear c29
  try clear g7
  try clear g8
  try clear h1
  try clear h2
  try clear g9
  try clear h0
  try clear h3
  try clear h4
  obtain ⟨kq, c4, c5, c6, c7, HA, HJ5, a0, a2, a6, a7, HB⟩ := hcut
  cases kq with
  | zero => exact absurd HA.out (by simp [laws_rgFull.j0])
  | succ kj5 =>
   have H := HA.out
   clear HA
   simp only [laws_rgFull.j0] at H
   replace H := Option.bind_eq_some_iff.mp H
   obtain ⟨e2, h6, H⟩ := H
   replace H : ((spec_RGPlace.f kj5 c6 c7).bind fun e1 => (if e2 = e1 then (some (0, 0, 4, 0)) else (some (c4, c5, c6, c7)))) = some (r1, r2, r3, r4) := H
   have A31 := aM h6
   clear h6
   replace H := Option.bind_eq_some_iff.mp H
   obtain ⟨e1, h7, H⟩ := H
   replace H : (if e2 = e1 then (some (0, 0, 4, 0)) else (some (c4, c5, c6, c7))) = some (r1, r2, r3, r4) := H
   have A32 := aM h7
   clear h7
   by_cases c33 : e2 = e1
   ·rw [if_pos c33] at H
    have c33b0 : (e2 == e1) = true := beq_iff_eq.mpr c33
    have c33b1 : (e2 != e1) = false := bne_eq_false_iff_eq.mpr c33
    clear c33
    simp only [Option.some.injEq, Prod.mk.injEq] at H
    obtain ⟨rfl, rfl, rfl, rfl⟩ := H
    try go_wp2
    have n0_ := aM (bD a0.out)
    have n1_ := aM (bD a2.out)
    have n2_ := aM (bD a6.out)
    have n3_ := aM (bD a7.out)
    have n4_ := aM (wD HB.out)
    clear a0
    clear a2
    clear a6
    clear a7
    clear HB
    have a0 := n0_
    have a2 := n1_
    have a6 := n2_
    have a7 := n3_
    have HB := n4_
    clear n0_ n1_ n2_ n3_ n4_
    refine start_ (n := 5) (S := fun w' => w'.cell? ⟨a3, 0, none⟩ = some (.int .i64 c4) ∧ w'.cell? ⟨a3, 1, none⟩ = some (.int .i64 c5) ∧ w'.cell? ⟨a4, 0, none⟩ = some (.int .i64 c6) ∧ w'.cell? ⟨a4, 1, none⟩ = some (.int .i64 c7)) (ds := []) #[false, false, false, false, false] (by kernel_rfl) rfl rfl ⟨(blk_cell a6.out 0).trans rfl, (blk_cell a6.out 1).trans rfl, (blk_cell a7.out 0).trans rfl, (blk_cell a7.out 1).trans rfl⟩ (fun hHeld => ?_)
    generalize wc.drew = w34 at a0 a2 a6 a7 HB hHeld ⊢
    refine take_ (i := 0) (N := some 26) (v := ?_) (a' := ?_) #[true, false, false, false, false] rfl rfl (by kernel_rfl) (fun _ _ _ h => h) (Or.inl ⟨by rfl, ?_⟩) hHeld ?_ ?_
    rotate_left
    ·rintro w' ⟨s0, s1, s2, s3⟩
     go_simp
     with_reducible rfl
    rotate_left
    ·simp only [Act.put, List.setIfInBounds_toArray, List.set_cons_zero, List.set_cons_succ, i64_w, i32_w]
     rfl
    refine take_ (i := 2) (N := some 28) (v := ?_) (a' := ?_) #[true, false, true, false, false] rfl rfl (by kernel_rfl) (fun _ _ _ h => h) (Or.inl ⟨by rfl, ?_⟩) hHeld ?_ ?_
    rotate_left
    ·rintro w' ⟨s0, s1, s2, s3⟩
     go_simp
     with_reducible rfl
    rotate_left
    ·simp only [Act.put, List.setIfInBounds_toArray, List.set_cons_zero, List.set_cons_succ, i64_w, i32_w]
     rfl
    refine one_ (i := 1) (N := some 27) #[true, true, true, false, false] rfl rfl (by kernel_rfl) (by decide) (fun K hK => ?_)
    refine goes_ Tryd.func13 (by kernel_rfl) rfl #[.agg #[.int .i64 c4, .int .i64 c5]] (by rfl) rfl rfl (by (try simp only [List.map_toArray, List.map_cons, List.map_nil]); first | done | rfl | (simp only [List.length_drop, List.length_take]; rfl)) ?_
    with_reducible refine (spec_RGPlace.calls kj5 c4 c5 e2 _ A31.out).mono ?_
    rintro e w35 ⟨rfl, hb⟩
    refine ⟨_, rfl, ?_⟩
    have n0_ := aM (bB (g := a1) (o := .cells #[.int .i64 a0_0, .int .i64 a0_1, .int .i64 a0_2, .int .i64 a0_3] 44 (0, 0)) (by (with_reducible repeat (first | refine bN ?_ _ | refine bD ?_ | refine bA ?_ _)); exact a0.out) hb)
    have n1_ := aM (bB (g := a5) (o := .cells #[.int .i64 0, .int .i64 0, .int .i64 0, .int .i64 0] 44 (0, 0)) (by (with_reducible repeat (first | refine bN ?_ _ | refine bD ?_ | refine bA ?_ _)); exact a2.out) hb)
    have n2_ := aM (bB (g := a3) (o := .cells #[.int .i64 c4, .int .i64 c5] 23 (0, 0)) (by (with_reducible repeat (first | refine bN ?_ _ | refine bD ?_ | refine bA ?_ _)); exact a6.out) hb)
    have n3_ := aM (bB (g := a4) (o := .cells #[.int .i64 c6, .int .i64 c7] 23 (0, 0)) (by (with_reducible repeat (first | refine bN ?_ _ | refine bD ?_ | refine bA ?_ _)); exact a7.out) hb)
    have n4_ := aM (wP (by repeat (first | (with_reducible first | exact HB.out | apply wA | apply wN | apply wD | refine wS ?_ a8.out | refine wS ?_ a9.out | refine wS ?_ b2.out | refine wS ?_ b3.out) | exact HB.out)) hb)
    clear a0
    clear a2
    clear a6
    clear a7
    clear HB
    have a0 := n0_
    have a2 := n1_
    have a6 := n2_
    have a7 := n3_
    have HB := n4_
    clear n0_ n1_ n2_ n3_ n4_
    (try clear hb)
    (try clear hb2)
    (try clear hk)
    (try clear hi)
    refine hK.out _ _ ⟨(blk_cell a6.out 0).trans rfl, (blk_cell a6.out 1).trans rfl, (blk_cell a7.out 0).trans rfl, (blk_cell a7.out 1).trans rfl⟩ (fun hHeld => ?_)
    clear hK K
    refine norm_ (a' := ?_) ?_ ?_
    rotate_left
    ·show Act.put _ (some 27) _ = _
     simp only [Act.put, List.setIfInBounds_toArray, List.set_cons_zero, List.set_cons_succ, i64_w, i32_w]
     rfl
    refine one_ (i := 3) (N := some 29) #[true, true, true, true, false] rfl rfl (by kernel_rfl) (by decide) (fun K hK => ?_)
    refine goes_ Tryd.func13 (by kernel_rfl) rfl #[.agg #[.int .i64 c6, .int .i64 c7]] (by rfl) rfl rfl (by (try simp only [List.map_toArray, List.map_cons, List.map_nil]); first | done | rfl | (simp only [List.length_drop, List.length_take]; rfl)) ?_
    with_reducible refine (spec_RGPlace.calls kj5 c6 c7 e1 _ A32.out).mono ?_
    rintro e w36 ⟨rfl, hb⟩
    refine ⟨_, rfl, ?_⟩
    have n0_ := aM (bB (g := a1) (o := .cells #[.int .i64 a0_0, .int .i64 a0_1, .int .i64 a0_2, .int .i64 a0_3] 44 (0, 0)) (by (with_reducible repeat (first | refine bN ?_ _ | refine bD ?_ | refine bA ?_ _)); exact a0.out) hb)
    have n1_ := aM (bB (g := a5) (o := .cells #[.int .i64 0, .int .i64 0, .int .i64 0, .int .i64 0] 44 (0, 0)) (by (with_reducible repeat (first | refine bN ?_ _ | refine bD ?_ | refine bA ?_ _)); exact a2.out) hb)
    have n2_ := aM (bB (g := a3) (o := .cells #[.int .i64 c4, .int .i64 c5] 23 (0, 0)) (by (with_reducible repeat (first | refine bN ?_ _ | refine bD ?_ | refine bA ?_ _)); exact a6.out) hb)
    have n3_ := aM (bB (g := a4) (o := .cells #[.int .i64 c6, .int .i64 c7] 23 (0, 0)) (by (with_reducible repeat (first | refine bN ?_ _ | refine bD ?_ | refine bA ?_ _)); exact a7.out) hb)
    have n4_ := aM (wP (by repeat (first | (with_reducible first | exact HB.out | apply wA | apply wN | apply wD | refine wS ?_ a8.out | refine wS ?_ a9.out | refine wS ?_ b2.out | refine wS ?_ b3.out) | exact HB.out)) hb)
    clear a0
    clear a2
    clear a6
    clear a7
    clear HB
    have a0 := n0_
    have a2 := n1_
    have a6 := n2_
    have a7 := n3_
    have HB := n4_
    clear n0_ n1_ n2_ n3_ n4_
    (try clear hb)
    (try clear hb2)
    (try clear hk)
    (try clear hi)
    refine hK.out _ _ ⟨(blk_cell a6.out 0).trans rfl, (blk_cell a6.out 1).trans rfl, (blk_cell a7.out 0).trans rfl, (blk_cell a7.out 1).trans rfl⟩ (fun hHeld => ?_)
    clear hK K
    refine norm_ (a' := ?_) ?_ ?_
    rotate_left
    ·show Act.put _ (some 29) _ = _
     simp only [Act.put, List.setIfInBounds_toArray, List.set_cons_zero, List.set_cons_succ, i64_w, i32_w]
     rfl
    refine pure_ (i := 4) (N := some 30) (v := ?_) (a' := ?_) #[true, true, true, true, true] rfl rfl (by kernel_rfl) (fun _ _ _ h => h) (Or.inl ⟨by rfl, ?_⟩) ?_ ?_
    rotate_left
    ·intro w'
     go_simp
     with_reducible rfl
    rotate_left
    ·simp only [Act.put, List.setIfInBounds_toArray, List.set_cons_zero, List.set_cons_succ, i64_w, i32_w]
     rfl
    refine done_ (by kernel_rfl) ?_
    have q6 := g1.out
    have q7 := g0.out
    have q8 := b4.out
    have q9 := b6.out
    have r0 := b5.out
    have r5 := b7.out
    have m5 : w36.cell? ⟨a5, 0, none⟩ = some (.int .i64 0) := (blk_cell a2.out 0).trans rfl
    have m6 : w36.cell? ⟨a5, 1, none⟩ = some (.int .i64 0) := (blk_cell a2.out 1).trans rfl
    have m7 : w36.cell? ⟨a5, 2, none⟩ = some (.int .i64 0) := (blk_cell a2.out 2).trans rfl
    have m8 : w36.cell? ⟨a5, 3, none⟩ = some (.int .i64 0) := (blk_cell a2.out 3).trans rfl
    have m9 := blk_frozen a2.out 0
    have n0 := blk_frozen a2.out 1
    have n1 := blk_frozen a2.out 2
    have n2 := blk_frozen a2.out 3
    try go_wp2
    refine bodyPost_ret (results_cell_row rfl _ _ a5 44 #[.int .i64 0, .int .i64 0, .int .i64 4, .int .i64 0] (0, 0) _ rfl (by (with_reducible repeat (first | refine bN ?_ _ | refine bD ?_ | refine bA ?_ _)); refine blk_put (cs := #[.int .i64 0, .int .i64 0, .int .i64 4, .int .i64 0]) ?_ 3 _ rfl; (with_reducible repeat (first | refine bN ?_ _ | refine bD ?_ | refine bA ?_ _)); refine blk_put (cs := #[.int .i64 0, .int .i64 0, .int .i64 0, .int .i64 0]) ?_ 2 _ rfl; (with_reducible repeat (first | refine bN ?_ _ | refine bD ?_ | refine bA ?_ _)); refine blk_put (cs := #[.int .i64 0, .int .i64 0, .int .i64 0, .int .i64 0]) ?_ 1 _ rfl; (with_reducible repeat (first | refine bN ?_ _ | refine bD ?_ | refine bA ?_ _)); refine blk_put (cs := #[.int .i64 0, .int .i64 0, .int .i64 0, .int .i64 0]) ?_ 0 _ rfl; (with_reducible repeat (first | refine bN ?_ _ | refine bD ?_ | refine bA ?_ _)); exact a2.out) Tryd.underlying44 rfl (by kernel_rfl)) rfl ?_
    exact ⟨by first | rfl | (simp [errW_none, errW_some] <;> rfl) | (simp [*, errW_none, errW_some] <;> rfl), by repeat (first | (with_reducible first | exact HB.out | apply wA | apply wN | apply wD | refine wS ?_ a8.out | refine wS ?_ a9.out | refine wS ?_ b2.out | refine wS ?_ b3.out) | exact HB.out)⟩
   ·rw [if_neg c33] at H
    have c33b0 : (e2 == e1) = false := beq_eq_false_iff_ne.mpr c33
    have c33b1 : (e2 != e1) = true := bne_iff_ne.mpr c33
    simp only [Option.some.injEq, Prod.mk.injEq] at H
    obtain ⟨rfl, rfl, rfl, rfl⟩ := H
    try go_wp2
    have n0_ := aM (bD a0.out)
    have n1_ := aM (bD a2.out)
    have n2_ := aM (bD a6.out)
    have n3_ := aM (bD a7.out)
    have n4_ := aM (wD HB.out)
    clear a0
    clear a2
    clear a6
    clear a7
    clear HB
    have a0 := n0_
    have a2 := n1_
    have a6 := n2_
    have a7 := n3_
    have HB := n4_
    clear n0_ n1_ n2_ n3_ n4_
    refine start_ (n := 5) (S := fun w' => w'.cell? ⟨a3, 0, none⟩ = some (.int .i64 c4) ∧ w'.cell? ⟨a3, 1, none⟩ = some (.int .i64 c5) ∧ w'.cell? ⟨a4, 0, none⟩ = some (.int .i64 c6) ∧ w'.cell? ⟨a4, 1, none⟩ = some (.int .i64 c7)) (ds := []) #[false, false, false, false, false] (by kernel_rfl) rfl rfl ⟨(blk_cell a6.out 0).trans rfl, (blk_cell a6.out 1).trans rfl, (blk_cell a7.out 0).trans rfl, (blk_cell a7.out 1).trans rfl⟩ (fun hHeld => ?_)
    generalize wc.drew = w41 at a0 a2 a6 a7 HB hHeld ⊢
    refine take_ (i := 0) (N := some 26) (v := ?_) (a' := ?_) #[true, false, false, false, false] rfl rfl (by kernel_rfl) (fun _ _ _ h => h) (Or.inl ⟨by rfl, ?_⟩) hHeld ?_ ?_
    rotate_left
    ·rintro w' ⟨s0, s1, s2, s3⟩
     go_simp
     with_reducible rfl
    rotate_left
    ·simp only [Act.put, List.setIfInBounds_toArray, List.set_cons_zero, List.set_cons_succ, i64_w, i32_w]
     rfl
    refine take_ (i := 2) (N := some 28) (v := ?_) (a' := ?_) #[true, false, true, false, false] rfl rfl (by kernel_rfl) (fun _ _ _ h => h) (Or.inl ⟨by rfl, ?_⟩) hHeld ?_ ?_
    rotate_left
    ·rintro w' ⟨s0, s1, s2, s3⟩
     go_simp
     with_reducible rfl
    rotate_left
    ·simp only [Act.put, List.setIfInBounds_toArray, List.set_cons_zero, List.set_cons_succ, i64_w, i32_w]
     rfl
    refine one_ (i := 1) (N := some 27) #[true, true, true, false, false] rfl rfl (by kernel_rfl) (by decide) (fun K hK => ?_)
    refine goes_ Tryd.func13 (by kernel_rfl) rfl #[.agg #[.int .i64 c4, .int .i64 c5]] (by rfl) rfl rfl (by (try simp only [List.map_toArray, List.map_cons, List.map_nil]); first | done | rfl | (simp only [List.length_drop, List.length_take]; rfl)) ?_
    with_reducible refine (spec_RGPlace.calls kj5 c4 c5 e2 _ A31.out).mono ?_
    rintro e w42 ⟨rfl, hb⟩
    refine ⟨_, rfl, ?_⟩
    have n0_ := aM (bB (g := a1) (o := .cells #[.int .i64 a0_0, .int .i64 a0_1, .int .i64 a0_2, .int .i64 a0_3] 44 (0, 0)) (by (with_reducible repeat (first | refine bN ?_ _ | refine bD ?_ | refine bA ?_ _)); exact a0.out) hb)
    have n1_ := aM (bB (g := a5) (o := .cells #[.int .i64 0, .int .i64 0, .int .i64 0, .int .i64 0] 44 (0, 0)) (by (with_reducible repeat (first | refine bN ?_ _ | refine bD ?_ | refine bA ?_ _)); exact a2.out) hb)
    have n2_ := aM (bB (g := a3) (o := .cells #[.int .i64 c4, .int .i64 c5] 23 (0, 0)) (by (with_reducible repeat (first | refine bN ?_ _ | refine bD ?_ | refine bA ?_ _)); exact a6.out) hb)
    have n3_ := aM (bB (g := a4) (o := .cells #[.int .i64 c6, .int .i64 c7] 23 (0, 0)) (by (with_reducible repeat (first | refine bN ?_ _ | refine bD ?_ | refine bA ?_ _)); exact a7.out) hb)
    have n4_ := aM (wP (by repeat (first | (with_reducible first | exact HB.out | apply wA | apply wN | apply wD | refine wS ?_ a8.out | refine wS ?_ a9.out | refine wS ?_ b2.out | refine wS ?_ b3.out) | exact HB.out)) hb)
    clear a0
    clear a2
    clear a6
    clear a7
    clear HB
    have a0 := n0_
    have a2 := n1_
    have a6 := n2_
    have a7 := n3_
    have HB := n4_
    clear n0_ n1_ n2_ n3_ n4_
    (try clear hb)
    (try clear hb2)
    (try clear hk)
    (try clear hi)
    refine hK.out _ _ ⟨(blk_cell a6.out 0).trans rfl, (blk_cell a6.out 1).trans rfl, (blk_cell a7.out 0).trans rfl, (blk_cell a7.out 1).trans rfl⟩ (fun hHeld => ?_)
    clear hK K
    refine norm_ (a' := ?_) ?_ ?_
    rotate_left
    ·show Act.put _ (some 27) _ = _
     simp only [Act.put, List.setIfInBounds_toArray, List.set_cons_zero, List.set_cons_succ, i64_w, i32_w]
     rfl
    refine one_ (i := 3) (N := some 29) #[true, true, true, true, false] rfl rfl (by kernel_rfl) (by decide) (fun K hK => ?_)
    refine goes_ Tryd.func13 (by kernel_rfl) rfl #[.agg #[.int .i64 c6, .int .i64 c7]] (by rfl) rfl rfl (by (try simp only [List.map_toArray, List.map_cons, List.map_nil]); first | done | rfl | (simp only [List.length_drop, List.length_take]; rfl)) ?_
    with_reducible refine (spec_RGPlace.calls kj5 c6 c7 e1 _ A32.out).mono ?_
    rintro e w43 ⟨rfl, hb⟩
    refine ⟨_, rfl, ?_⟩
    have n0_ := aM (bB (g := a1) (o := .cells #[.int .i64 a0_0, .int .i64 a0_1, .int .i64 a0_2, .int .i64 a0_3] 44 (0, 0)) (by (with_reducible repeat (first | refine bN ?_ _ | refine bD ?_ | refine bA ?_ _)); exact a0.out) hb)
    have n1_ := aM (bB (g := a5) (o := .cells #[.int .i64 0, .int .i64 0, .int .i64 0, .int .i64 0] 44 (0, 0)) (by (with_reducible repeat (first | refine bN ?_ _ | refine bD ?_ | refine bA ?_ _)); exact a2.out) hb)
    have n2_ := aM (bB (g := a3) (o := .cells #[.int .i64 c4, .int .i64 c5] 23 (0, 0)) (by (with_reducible repeat (first | refine bN ?_ _ | refine bD ?_ | refine bA ?_ _)); exact a6.out) hb)
    have n3_ := aM (bB (g := a4) (o := .cells #[.int .i64 c6, .int .i64 c7] 23 (0, 0)) (by (with_reducible repeat (first | refine bN ?_ _ | refine bD ?_ | refine bA ?_ _)); exact a7.out) hb)
    have n4_ := aM (wP (by repeat (first | (with_reducible first | exact HB.out | apply wA | apply wN | apply wD | refine wS ?_ a8.out | refine wS ?_ a9.out | refine wS ?_ b2.out | refine wS ?_ b3.out) | exact HB.out)) hb)
    clear a0
    clear a2
    clear a6
    clear a7
    clear HB
    have a0 := n0_
    have a2 := n1_
    have a6 := n2_
    have a7 := n3_
    have HB := n4_
    clear n0_ n1_ n2_ n3_ n4_
    (try clear hb)
    (try clear hb2)
    (try clear hk)
    (try clear hi)
    refine hK.out _ _ ⟨(blk_cell a6.out 0).trans rfl, (blk_cell a6.out 1).trans rfl, (blk_cell a7.out 0).trans rfl, (blk_cell a7.out 1).trans rfl⟩ (fun hHeld => ?_)
    clear hK K
    refine norm_ (a' := ?_) ?_ ?_
    rotate_left
    ·show Act.put _ (some 29) _ = _
     simp only [Act.put, List.setIfInBounds_toArray, List.set_cons_zero, List.set_cons_succ, i64_w, i32_w]
     rfl
    refine pure_ (i := 4) (N := some 30) (v := ?_) (a' := ?_) #[true, true, true, true, true] rfl rfl (by kernel_rfl) (fun _ _ _ h => h) (Or.inl ⟨by rfl, ?_⟩) ?_ ?_
    rotate_left
    ·intro w'
     go_simp
     with_reducible rfl
    rotate_left
    ·simp only [Act.put, List.setIfInBounds_toArray, List.set_cons_zero, List.set_cons_succ, i64_w, i32_w]
     rfl
    refine done_ (by kernel_rfl) ?_
    have r6 := b8.out
    have r7 := b0.out
    have r8 := b6.out
    have r9 := b4.out
    have s4 := c3.out
    have s5 := c0.out
    have n3 : w43.cell? ⟨a3, 0, none⟩ = some (.int .i64 c4) := (blk_cell a6.out 0).trans rfl
    have n4 : w43.cell? ⟨a3, 1, none⟩ = some (.int .i64 c5) := (blk_cell a6.out 1).trans rfl
    have n5 := blk_frozen a6.out 0
    have n6 := blk_frozen a6.out 1
    have s6 := b9.out
    have s7 := b1.out
    have s8 := b7.out
    have s9 := b5.out
    have n7 : w43.cell? ⟨a4, 0, none⟩ = some (.int .i64 c6) := (blk_cell a7.out 0).trans rfl
    have n8 : w43.cell? ⟨a4, 1, none⟩ = some (.int .i64 c7) := (blk_cell a7.out 1).trans rfl
    have n9 := blk_frozen a7.out 0
    have o0 := blk_frozen a7.out 1
    have t0 := g1.out
    have t1 := g0.out
    have o1 : w43.cell? ⟨a5, 0, none⟩ = some (.int .i64 0) := (blk_cell a2.out 0).trans rfl
    have o2 : w43.cell? ⟨a5, 1, none⟩ = some (.int .i64 0) := (blk_cell a2.out 1).trans rfl
    have o3 : w43.cell? ⟨a5, 2, none⟩ = some (.int .i64 0) := (blk_cell a2.out 2).trans rfl
    have o4 : w43.cell? ⟨a5, 3, none⟩ = some (.int .i64 0) := (blk_cell a2.out 3).trans rfl
    have o5 := blk_frozen a2.out 0
    have o6 := blk_frozen a2.out 1
    have o7 := blk_frozen a2.out 2
    have o8 := blk_frozen a2.out 3
    try go_wp2
    refine bodyPost_ret (results_cell_row rfl _ _ a5 44 #[.int .i64 c4, .int .i64 c5, .int .i64 c6, .int .i64 c7] (0, 0) _ rfl (by (with_reducible repeat (first | refine bN ?_ _ | refine bD ?_ | refine bA ?_ _)); refine blk_put (cs := #[.int .i64 c4, .int .i64 c5, .int .i64 c6, .int .i64 0]) ?_ 3 _ rfl; (with_reducible repeat (first | refine bN ?_ _ | refine bD ?_ | refine bA ?_ _)); refine blk_put (cs := #[.int .i64 c4, .int .i64 c5, .int .i64 0, .int .i64 0]) ?_ 2 _ rfl; (with_reducible repeat (first | refine bN ?_ _ | refine bD ?_ | refine bA ?_ _)); refine blk_put (cs := #[.int .i64 c4, .int .i64 0, .int .i64 0, .int .i64 0]) ?_ 1 _ rfl; (with_reducible repeat (first | refine bN ?_ _ | refine bD ?_ | refine bA ?_ _)); refine blk_put (cs := #[.int .i64 0, .int .i64 0, .int .i64 0, .int .i64 0]) ?_ 0 _ rfl; (with_reducible repeat (first | refine bN ?_ _ | refine bD ?_ | refine bA ?_ _)); exact a2.out) Tryd.underlying44 rfl (by kernel_rfl)) rfl ?_
    exact ⟨by first | rfl | (simp [errW_none, errW_some] <;> rfl) | (simp [*, errW_none, errW_some] <;> rfl), by repeat (first | (with_reducible first | exact HB.out | apply wA | apply wN | apply wD | refine wS ?_ a8.out | refine wS ?_ a9.out | refine wS ?_ b2.out | refine wS ?_ b3.out) | exact HB.out)⟩

end Go.Proofs.YtlcoodjkolponaaDoor.PRR
