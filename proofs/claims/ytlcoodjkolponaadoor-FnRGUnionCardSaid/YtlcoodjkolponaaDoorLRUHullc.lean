-- written by gprint.py, a program of this claim's own, by means of the kit's print
import Derived.Test.YtlcoodjkolponaaDoorLRUHulld
namespace Go.Proofs.YtlcoodjkolponaaDoor.PRU
open Go.RowKit Go.Proofs.YtlcoodjkolponaaDoorW.PrintWords Go.Proofs.YtlcoodjkolponaaDoorW.PrintLast Go.Proofs.YtlcoodjkolponaaDoorW.PrintMore
attribute [local go_sem] max2_int min2_int max_two min_two max_three min_three max_four min_four   -- for this text's walks alone
set_option linter.unusedVariables false
set_option linter.unusedSimpArgs false
open Go.Proofs.YtlcoodjkolponaaDoorW.PrintWords renaming blk_drewN → bN, blk_drew → bD, blk_alloc → bA, below_set → wS, below_alloc → wA, pw_below_drewN → wN, below_drew1 → wD, below_step → wP, blk_below → bB, blk_lt → bL
open Go.Proofs.YtlcoodjkolponaaDoorW.PrintWords.Aside0 renaming mk → aM
set_option maxHeartbeats 8000000 in
set_option maxRecDepth 100000 in
theorem spec_RGHull.calls (k : Nat) (a0_0 : Int) (a0_1 : Int) (a0_2 : Int) (a0_3 : Int) (a1_0 : Int) (a1_1 : Int) (a1_2 : Int) (a1_3 : Int) (r1 : Int) (r2 : Int) (r3 : Int) (r4 : Int) (w : World) (h : spec_RGHull.f k a0_0 a0_1 a0_2 a0_3 a1_0 a1_1 a1_2 a1_3 = some (r1, r2, r3, r4)) :
  Calls Tryd.prog 31 #[.agg #[.int .i64 a0_0, .int .i64 a0_1, .int .i64 a0_2, .int .i64 a0_3], .agg #[.int .i64 a1_0, .int .i64 a1_1, .int .i64 a1_2, .int .i64 a1_3]] w fun e w' => e = .returned (.agg #[.int .i64 r1, .int .i64 r2, .int .i64 r3, .int .i64 r4]) ∧ Below w.heap.size w w' := by
 have m3 := Tryd.underlying44
 have m4 := Tryd.underlying23
 have HB := aM (Below.refl w.heap.size w)
 have H : ((spec_RGPlace.f k a1_0 a1_1).bind fun b4 => ((spec_RGPlace.f k a0_0 a0_1).bind fun b3 => (if b4 < b3 then (spec_RGHull.j0 k a1_0 a1_1 a0_2 a0_3 a1_0 a1_1 a1_2 a1_3) else (spec_RGHull.j0 k a0_0 a0_1 a0_2 a0_3 a1_0 a1_1 a1_2 a1_3)))) = some (r1, r2, r3, r4) := h
 clear h
 replace H := Option.bind_eq_some_iff.mp H
 obtain ⟨b4, A30, H⟩ := H
 replace H : ((spec_RGPlace.f k a0_0 a0_1).bind fun b3 => (if b4 < b3 then (spec_RGHull.j0 k a1_0 a1_1 a0_2 a0_3 a1_0 a1_1 a1_2 a1_3) else (spec_RGHull.j0 k a0_0 a0_1 a0_2 a0_3 a1_0 a1_1 a1_2 a1_3))) = some (r1, r2, r3, r4) := H
 have A3 := aM A30
 clear A30
 replace H := Option.bind_eq_some_iff.mp H
 obtain ⟨b3, A40, H⟩ := H
 replace H : (if b4 < b3 then (spec_RGHull.j0 k a1_0 a1_1 a0_2 a0_3 a1_0 a1_1 a1_2 a1_3) else (spec_RGHull.j0 k a0_0 a0_1 a0_2 a0_3 a1_0 a1_1 a1_2 a1_3)) = some (r1, r2, r3, r4) := H
 have A4 := aM A40
 clear A40
 have HC5 := aM H
 clear H
 go_enter Tryd.func31, Tryd.ntmps31
 try go_wp2_with (first | ((with_reducible refine gate_dst (N := 2) rfl ?_); refine box_event ?hg (N := 2) ?hd (cs := #[.int .i64 a0_0, .int .i64 a0_1, .int .i64 a0_2, .int .i64 a0_3]) (t := 44) ?hr ?_; (case hd => rfl); (case hg => rfl); (case hr => first | (go_simp; done) | (go_simp; rfl)); intro a3 hg w6 hbox hb; have n0_ := aM (wP (by repeat (first | (with_reducible first | exact HB.out | apply wA | apply wN | apply wD) | exact HB.out)) hb); have n1_ := aM (hbox); have n2_ := aM ((by rw [hg]; exact (below_size (by repeat (first | (with_reducible first | exact HB.out | apply wA | apply wN | apply wD) | exact HB.out))) : w.heap.size ≤ a3)); have n3_ := aM ((by rw [hg]; exact (below_size (by repeat (first | (with_reducible first | exact HB.out | apply wA | apply wN | apply wD) | exact HB.out))) : w.heap.size ≤ a3)); clear HB; have HB := n0_; have a0 := n1_; have j2 := n2_; have a8 := n3_; clear n0_ n1_ n2_ n3_; clear hb hbox hg) | ((with_reducible refine gate_dst (N := 3) rfl ?_); refine box_event ?hg (N := 3) ?hd (cs := #[.int .i64 a1_0, .int .i64 a1_1, .int .i64 a1_2, .int .i64 a1_3]) (t := 44) ?hr ?_; (case hd => rfl); (case hg => rfl); (case hr => first | (go_simp; done) | (go_simp; rfl)); intro a6 hg w7 hbox hb; have n0_ := aM (bB (g := a3) (o := .cells #[.int .i64 a0_0, .int .i64 a0_1, .int .i64 a0_2, .int .i64 a0_3] 44 (0, 0)) (by (with_reducible repeat (first | refine bN ?_ _ | refine bD ?_ | refine bA ?_ _)); exact a0.out) hb); have n1_ := aM (wP (by repeat (first | (with_reducible first | exact HB.out | apply wA | apply wN | apply wD | refine wS ?_ a8.out) | exact HB.out)) hb); have n2_ := aM (hbox); have n3_ := aM ((by rw [hg]; exact (below_size (by repeat (first | (with_reducible first | exact HB.out | apply wA | apply wN | apply wD | refine wS ?_ a8.out) | exact HB.out))) : w.heap.size ≤ a6)); have n4_ := aM ((by rw [hg]; exact (below_size (by repeat (first | (with_reducible first | exact HB.out | apply wA | apply wN | apply wD | refine wS ?_ a8.out) | exact HB.out))) : w.heap.size ≤ a6)); have n5_ := aM ((by rw [hg]; exact Nat.ne_of_lt (bL (g := a3) (o := .cells #[.int .i64 a0_0, .int .i64 a0_1, .int .i64 a0_2, .int .i64 a0_3] 44 (0, 0)) (by (with_reducible repeat (first | refine bN ?_ _ | refine bD ?_ | refine bA ?_ _)); exact a0.out)) : a3 ≠ a6)); have n6_ := aM ((by rw [hg]; exact Nat.ne_of_gt (bL (g := a3) (o := .cells #[.int .i64 a0_0, .int .i64 a0_1, .int .i64 a0_2, .int .i64 a0_3] 44 (0, 0)) (by (with_reducible repeat (first | refine bN ?_ _ | refine bD ?_ | refine bA ?_ _)); exact a0.out)) : a6 ≠ a3)); clear a0; clear HB; have a0 := n0_; have HB := n1_; have a1 := n2_; have j3 := n3_; have b0 := n4_; have b5 := n5_; have b2 := n6_; clear n0_ n1_ n2_ n3_ n4_ n5_ n6_; clear hb hbox hg) | ((with_reducible refine gate_dst (N := 4) rfl ?_); refine box_event ?hg (N := 4) ?hd (cs := #[.int .i64 0, .int .i64 0, .int .i64 0, .int .i64 0]) (t := 44) ?hr ?_; (case hd => rfl); (case hg => rfl); (case hr => first | (go_simp; done) | (go_simp; rfl)); intro a7 hg w8 hbox hb; have n0_ := aM (bB (g := a3) (o := .cells #[.int .i64 a0_0, .int .i64 a0_1, .int .i64 a0_2, .int .i64 a0_3] 44 (0, 0)) (by (with_reducible repeat (first | refine bN ?_ _ | refine bD ?_ | refine bA ?_ _)); exact a0.out) hb); have n1_ := aM (bB (g := a6) (o := .cells #[.int .i64 a1_0, .int .i64 a1_1, .int .i64 a1_2, .int .i64 a1_3] 44 (0, 0)) (by (with_reducible repeat (first | refine bN ?_ _ | refine bD ?_ | refine bA ?_ _)); exact a1.out) hb); have n2_ := aM (wP (by repeat (first | (with_reducible first | exact HB.out | apply wA | apply wN | apply wD | refine wS ?_ a8.out | refine wS ?_ b0.out) | exact HB.out)) hb); have n3_ := aM (hbox); have n4_ := aM ((by rw [hg]; exact (below_size (by repeat (first | (with_reducible first | exact HB.out | apply wA | apply wN | apply wD | refine wS ?_ a8.out | refine wS ?_ b0.out) | exact HB.out))) : w.heap.size ≤ a7)); have n5_ := aM ((by rw [hg]; exact (below_size (by repeat (first | (with_reducible first | exact HB.out | apply wA | apply wN | apply wD | refine wS ?_ a8.out | refine wS ?_ b0.out) | exact HB.out))) : w.heap.size ≤ a7)); have n6_ := aM ((by rw [hg]; exact Nat.ne_of_lt (bL (g := a3) (o := .cells #[.int .i64 a0_0, .int .i64 a0_1, .int .i64 a0_2, .int .i64 a0_3] 44 (0, 0)) (by (with_reducible repeat (first | refine bN ?_ _ | refine bD ?_ | refine bA ?_ _)); exact a0.out)) : a3 ≠ a7)); have n7_ := aM ((by rw [hg]; exact Nat.ne_of_gt (bL (g := a3) (o := .cells #[.int .i64 a0_0, .int .i64 a0_1, .int .i64 a0_2, .int .i64 a0_3] 44 (0, 0)) (by (with_reducible repeat (first | refine bN ?_ _ | refine bD ?_ | refine bA ?_ _)); exact a0.out)) : a7 ≠ a3)); have n8_ := aM ((by rw [hg]; exact Nat.ne_of_lt (bL (g := a6) (o := .cells #[.int .i64 a1_0, .int .i64 a1_1, .int .i64 a1_2, .int .i64 a1_3] 44 (0, 0)) (by (with_reducible repeat (first | refine bN ?_ _ | refine bD ?_ | refine bA ?_ _)); exact a1.out)) : a6 ≠ a7)); have n9_ := aM ((by rw [hg]; exact Nat.ne_of_gt (bL (g := a6) (o := .cells #[.int .i64 a1_0, .int .i64 a1_1, .int .i64 a1_2, .int .i64 a1_3] 44 (0, 0)) (by (with_reducible repeat (first | refine bN ?_ _ | refine bD ?_ | refine bA ?_ _)); exact a1.out)) : a7 ≠ a6)); clear a0; clear a1; clear HB; have a0 := n0_; have a1 := n1_; have HB := n2_; have a2 := n3_; have j4 := n4_; have b1 := n5_; have b6 := n6_; have a9 := n7_; have b7 := n8_; have b8 := n9_; clear n0_ n1_ n2_ n3_ n4_ n5_ n6_ n7_ n8_ n9_; clear hb hbox hg))
 have n0_ := aM (bD a0.out)
 have n1_ := aM (bD a1.out)
 have n2_ := aM (bD a2.out)
 have n3_ := aM (wD HB.out)
 clear a0
 clear a1
 clear a2
 clear HB
 have a0 := n0_
 have a1 := n1_
 have a2 := n2_
 have HB := n3_
 clear n0_ n1_ n2_ n3_
 refine start_ (n := 7) (S := fun w' => w'.cell? ⟨a6, 0, none⟩ = some (.int .i64 a1_0) ∧ w'.cell? ⟨a6, 1, none⟩ = some (.int .i64 a1_1) ∧ w'.cell? ⟨a6, 2, none⟩ = some (.int .i64 a1_2) ∧ w'.cell? ⟨a6, 3, none⟩ = some (.int .i64 a1_3) ∧ w'.cell? ⟨a3, 0, none⟩ = some (.int .i64 a0_0) ∧ w'.cell? ⟨a3, 1, none⟩ = some (.int .i64 a0_1) ∧ w'.cell? ⟨a3, 2, none⟩ = some (.int .i64 a0_2) ∧ w'.cell? ⟨a3, 3, none⟩ = some (.int .i64 a0_3)) (ds := []) #[false, false, false, false, false, false, false] (by kernel_rfl) rfl rfl ⟨(blk_cell a1.out 0).trans rfl, (blk_cell a1.out 1).trans rfl, (blk_cell a1.out 2).trans rfl, (blk_cell a1.out 3).trans rfl, (blk_cell a0.out 0).trans rfl, (blk_cell a0.out 1).trans rfl, (blk_cell a0.out 2).trans rfl, (blk_cell a0.out 3).trans rfl⟩ (fun hHeld => ?_)
 generalize w8.drew = w9 at a0 a1 a2 HB hHeld ⊢
 refine pure_ (i := 0) (N := some 5) (v := ?_) (a' := ?_) #[true, false, false, false, false, false, false] rfl rfl (by kernel_rfl) (fun _ _ _ h => h) (Or.inl ⟨by rfl, ?_⟩) ?_ ?_
 rotate_left
 ·intro w'
  go_simp
  with_reducible rfl
 rotate_left
 ·simp only [Act.put, List.setIfInBounds_toArray, List.set_cons_zero, List.set_cons_succ, i64_w, i32_w]
  rfl
 refine pure_ (i := 3) (N := some 8) (v := ?_) (a' := ?_) #[true, false, false, true, false, false, false] rfl rfl (by kernel_rfl) (fun _ _ _ h => h) (Or.inl ⟨by rfl, ?_⟩) ?_ ?_
 rotate_left
 ·intro w'
  go_simp
  with_reducible rfl
 rotate_left
 ·simp only [Act.put, List.setIfInBounds_toArray, List.set_cons_zero, List.set_cons_succ, i64_w, i32_w]
  rfl
 refine take_ (i := 1) (N := some 6) (v := ?_) (a' := ?_) #[true, true, false, true, false, false, false] rfl rfl (by kernel_rfl) (fun _ _ _ h => h) (Or.inl ⟨by rfl, ?_⟩) hHeld ?_ ?_
 rotate_left
 ·rintro w' ⟨s0, s1, s2, s3, s4, s5, s6, s7⟩
  go_simp
  with_reducible rfl
 rotate_left
 ·simp only [Act.put, List.setIfInBounds_toArray, List.set_cons_zero, List.set_cons_succ, i64_w, i32_w]
  rfl
 refine take_ (i := 4) (N := some 9) (v := ?_) (a' := ?_) #[true, true, false, true, true, false, false] rfl rfl (by kernel_rfl) (fun _ _ _ h => h) (Or.inl ⟨by rfl, ?_⟩) hHeld ?_ ?_
 rotate_left
 ·rintro w' ⟨s0, s1, s2, s3, s4, s5, s6, s7⟩
  go_simp
  with_reducible rfl
 rotate_left
 ·simp only [Act.put, List.setIfInBounds_toArray, List.set_cons_zero, List.set_cons_succ, i64_w, i32_w]
  rfl
 refine one_ (i := 2) (N := some 7) #[true, true, true, true, true, false, false] rfl rfl (by kernel_rfl) (by decide) (fun K hK => ?_)
 refine goes_ Tryd.func13 (by kernel_rfl) rfl #[.agg #[.int .i64 a1_0, .int .i64 a1_1]] (by rfl) rfl rfl (by (try simp only [List.map_toArray, List.map_cons, List.map_nil]); first | done | rfl | (simp only [List.length_drop, List.length_take]; rfl)) ?_
 with_reducible refine (spec_RGPlace.calls k a1_0 a1_1 b4 _ A3.out).mono ?_
 rintro e w10 ⟨rfl, hb⟩
 refine ⟨_, rfl, ?_⟩
 have n0_ := aM (bB (g := a3) (o := .cells #[.int .i64 a0_0, .int .i64 a0_1, .int .i64 a0_2, .int .i64 a0_3] 44 (0, 0)) (by (with_reducible repeat (first | refine bN ?_ _ | refine bD ?_ | refine bA ?_ _)); exact a0.out) hb)
 have n1_ := aM (bB (g := a6) (o := .cells #[.int .i64 a1_0, .int .i64 a1_1, .int .i64 a1_2, .int .i64 a1_3] 44 (0, 0)) (by (with_reducible repeat (first | refine bN ?_ _ | refine bD ?_ | refine bA ?_ _)); exact a1.out) hb)
 have n2_ := aM (bB (g := a7) (o := .cells #[.int .i64 0, .int .i64 0, .int .i64 0, .int .i64 0] 44 (0, 0)) (by (with_reducible repeat (first | refine bN ?_ _ | refine bD ?_ | refine bA ?_ _)); exact a2.out) hb)
 have n3_ := aM (wP (by repeat (first | (with_reducible first | exact HB.out | apply wA | apply wN | apply wD | refine wS ?_ a8.out | refine wS ?_ b0.out | refine wS ?_ b1.out) | exact HB.out)) hb)
 clear a0
 clear a1
 clear a2
 clear HB
 have a0 := n0_
 have a1 := n1_
 have a2 := n2_
 have HB := n3_
 clear n0_ n1_ n2_ n3_
 (try clear hb)
 (try clear hb2)
 (try clear hk)
 (try clear hi)
 refine hK.out _ _ ⟨(blk_cell a1.out 0).trans rfl, (blk_cell a1.out 1).trans rfl, (blk_cell a1.out 2).trans rfl, (blk_cell a1.out 3).trans rfl, (blk_cell a0.out 0).trans rfl, (blk_cell a0.out 1).trans rfl, (blk_cell a0.out 2).trans rfl, (blk_cell a0.out 3).trans rfl⟩ (fun hHeld => ?_)
 clear hK K
 refine norm_ (a' := ?_) ?_ ?_
 rotate_left
 ·show Act.put _ (some 7) _ = _
  simp only [Act.put, List.setIfInBounds_toArray, List.set_cons_zero, List.set_cons_succ, i64_w, i32_w]
  rfl
 refine one_ (i := 5) (N := some 10) #[true, true, true, true, true, true, false] rfl rfl (by kernel_rfl) (by decide) (fun K hK => ?_)
 refine goes_ Tryd.func13 (by kernel_rfl) rfl #[.agg #[.int .i64 a0_0, .int .i64 a0_1]] (by rfl) rfl rfl (by (try simp only [List.map_toArray, List.map_cons, List.map_nil]); first | done | rfl | (simp only [List.length_drop, List.length_take]; rfl)) ?_
 with_reducible refine (spec_RGPlace.calls k a0_0 a0_1 b3 _ A4.out).mono ?_
 rintro e w11 ⟨rfl, hb⟩
 refine ⟨_, rfl, ?_⟩
 have n0_ := aM (bB (g := a3) (o := .cells #[.int .i64 a0_0, .int .i64 a0_1, .int .i64 a0_2, .int .i64 a0_3] 44 (0, 0)) (by (with_reducible repeat (first | refine bN ?_ _ | refine bD ?_ | refine bA ?_ _)); exact a0.out) hb)
 have n1_ := aM (bB (g := a6) (o := .cells #[.int .i64 a1_0, .int .i64 a1_1, .int .i64 a1_2, .int .i64 a1_3] 44 (0, 0)) (by (with_reducible repeat (first | refine bN ?_ _ | refine bD ?_ | refine bA ?_ _)); exact a1.out) hb)
 have n2_ := aM (bB (g := a7) (o := .cells #[.int .i64 0, .int .i64 0, .int .i64 0, .int .i64 0] 44 (0, 0)) (by (with_reducible repeat (first | refine bN ?_ _ | refine bD ?_ | refine bA ?_ _)); exact a2.out) hb)
 have n3_ := aM (wP (by repeat (first | (with_reducible first | exact HB.out | apply wA | apply wN | apply wD | refine wS ?_ a8.out | refine wS ?_ b0.out | refine wS ?_ b1.out) | exact HB.out)) hb)
 clear a0
 clear a1
 clear a2
 clear HB
 have a0 := n0_
 have a1 := n1_
 have a2 := n2_
 have HB := n3_
 clear n0_ n1_ n2_ n3_
 (try clear hb)
 (try clear hb2)
 (try clear hk)
 (try clear hi)
 refine hK.out _ _ ⟨(blk_cell a1.out 0).trans rfl, (blk_cell a1.out 1).trans rfl, (blk_cell a1.out 2).trans rfl, (blk_cell a1.out 3).trans rfl, (blk_cell a0.out 0).trans rfl, (blk_cell a0.out 1).trans rfl, (blk_cell a0.out 2).trans rfl, (blk_cell a0.out 3).trans rfl⟩ (fun hHeld => ?_)
 clear hK K
 refine norm_ (a' := ?_) ?_ ?_
 rotate_left
 ·show Act.put _ (some 10) _ = _
  simp only [Act.put, List.setIfInBounds_toArray, List.set_cons_zero, List.set_cons_succ, i64_w, i32_w]
  rfl
 refine pure_ (i := 6) (N := some 11) (v := ?_) (a' := ?_) #[true, true, true, true, true, true, true] rfl rfl (by kernel_rfl) (fun _ _ _ h => h) (Or.inl ⟨by rfl, ?_⟩) ?_ ?_
 rotate_left
 ·intro w'
  go_simp
  with_reducible rfl
 rotate_left
 ·simp only [Act.put, List.setIfInBounds_toArray, List.set_cons_zero, List.set_cons_succ, i64_w, i32_w]
  rfl
 refine done_ (by kernel_rfl) ?_
 go_upto_if 11 with (fail)
 go_cut [] (fun wc => ∃ (kq : Nat) (a4 : Int) (a5 : Int), Aside0 (spec_RGHull.j0 kq a4 a5 a0_2 a0_3 a1_0 a1_1 a1_2 a1_3 = some (r1, r2, r3, r4)) ∧ Aside0 (kq ≤ k) ∧ Aside0 (wc.heap[a3]? = some (.cells #[.int .i64 a4, .int .i64 a5, .int .i64 a0_2, .int .i64 a0_3] 44 (0, 0))) ∧ Aside0 (wc.heap[a6]? = some (.cells #[.int .i64 a1_0, .int .i64 a1_1, .int .i64 a1_2, .int .i64 a1_3] 44 (0, 0))) ∧ Aside0 (wc.heap[a7]? = some (.cells #[.int .i64 0, .int .i64 0, .int .i64 0, .int .i64 0] 44 (0, 0))) ∧ Aside0 (Below w.heap.size w wc))
 case first =>
  have H := HC5.out
  clear HC5
  by_cases c12 : b4 < b3
  ·rw [if_pos c12] at H
   have c12b0 : decide (b4 < b3) = true := decide_eq_true c12
   clear c12
   (first | rw [c12b0] | (simp only [i64_w, i32_w]; rw [c12b0]) | skip)
   have H' := aM H
   clear H
   have j5 := b2.out
   have j6 := b5.out
   have j7 := b7.out
   have j8 := b8.out
   have c2 : w11.cell? ⟨a6, 0, none⟩ = some (.int .i64 a1_0) := (blk_cell a1.out 0).trans rfl
   have c4 : w11.cell? ⟨a6, 1, none⟩ = some (.int .i64 a1_1) := (blk_cell a1.out 1).trans rfl
   have c5 : w11.cell? ⟨a6, 2, none⟩ = some (.int .i64 a1_2) := (blk_cell a1.out 2).trans rfl
   have c6 : w11.cell? ⟨a6, 3, none⟩ = some (.int .i64 a1_3) := (blk_cell a1.out 3).trans rfl
   have c7 := blk_frozen a1.out 0
   have c8 := blk_frozen a1.out 1
   have c9 := blk_frozen a1.out 2
   have d0 := blk_frozen a1.out 3
   have j9 := b6.out
   have l0 := a9.out
   have d1 : w11.cell? ⟨a3, 0, none⟩ = some (.int .i64 a0_0) := (blk_cell a0.out 0).trans rfl
   have d2 : w11.cell? ⟨a3, 1, none⟩ = some (.int .i64 a0_1) := (blk_cell a0.out 1).trans rfl
   have d3 : w11.cell? ⟨a3, 2, none⟩ = some (.int .i64 a0_2) := (blk_cell a0.out 2).trans rfl
   have d4 : w11.cell? ⟨a3, 3, none⟩ = some (.int .i64 a0_3) := (blk_cell a0.out 3).trans rfl
   have d5 := blk_frozen a0.out 0
   have d6 := blk_frozen a0.out 1
   have d7 := blk_frozen a0.out 2
   have d8 := blk_frozen a0.out 3
   go_wp2
   go_meet
   case rel => exact ⟨_, (a1_0), (a1_1), H', ⟨by first | omega | exact Nat.le_refl _⟩, ⟨by (with_reducible repeat (first | refine bN ?_ _ | refine bD ?_ | refine bA ?_ _)); refine blk_put (cs := #[.int .i64 a1_0, .int .i64 a0_1, .int .i64 a0_2, .int .i64 a0_3]) ?_ 1 _ rfl; (with_reducible repeat (first | refine bN ?_ _ | refine bD ?_ | refine bA ?_ _)); refine blk_put (cs := #[.int .i64 a0_0, .int .i64 a0_1, .int .i64 a0_2, .int .i64 a0_3]) ?_ 0 _ rfl; (with_reducible repeat (first | refine bN ?_ _ | refine bD ?_ | refine bA ?_ _)); exact a0.out⟩, ⟨by (with_reducible repeat (first | refine bN ?_ _ | refine bD ?_ | refine bA ?_ _)); refine blk_far ?_ b2.out _; (with_reducible repeat (first | refine bN ?_ _ | refine bD ?_ | refine bA ?_ _)); refine blk_far ?_ b2.out _; (with_reducible repeat (first | refine bN ?_ _ | refine bD ?_ | refine bA ?_ _)); exact a1.out⟩, ⟨by (with_reducible repeat (first | refine bN ?_ _ | refine bD ?_ | refine bA ?_ _)); refine blk_far ?_ a9.out _; (with_reducible repeat (first | refine bN ?_ _ | refine bD ?_ | refine bA ?_ _)); refine blk_far ?_ a9.out _; (with_reducible repeat (first | refine bN ?_ _ | refine bD ?_ | refine bA ?_ _)); exact a2.out⟩, ⟨by repeat (first | (with_reducible first | exact HB.out | apply wA | apply wN | apply wD | refine wS ?_ a8.out | refine wS ?_ b0.out | refine wS ?_ b1.out) | exact HB.out)⟩⟩
  ·rw [if_neg c12] at H
   have c12b0 : decide (b4 < b3) = false := decide_eq_false c12
   clear c12
   (first | rw [c12b0] | (simp only [i64_w, i32_w]; rw [c12b0]) | skip)
   have H' := aM H
   clear H
   go_wp2
   go_meet
   case rel => exact ⟨_, (a0_0), (a0_1), H', ⟨by first | omega | exact Nat.le_refl _⟩, ⟨by (with_reducible repeat (first | refine bN ?_ _ | refine bD ?_ | refine bA ?_ _)); exact a0.out⟩, ⟨by (with_reducible repeat (first | refine bN ?_ _ | refine bD ?_ | refine bA ?_ _)); exact a1.out⟩, ⟨by (with_reducible repeat (first | refine bN ?_ _ | refine bD ?_ | refine bA ?_ _)); exact a2.out⟩, ⟨by repeat (first | (with_reducible first | exact HB.out | apply wA | apply wN | apply wD | refine wS ?_ a8.out | refine wS ?_ b0.out | refine wS ?_ b1.out) | exact HB.out)⟩⟩
 case rest =>
  clear HC5
  try clear c1
  try clear p2
  try clear c3
  try clear c12
  try clear c12b0
  try clear c13
  try clear c14
  try clear c16
  try clear c2
  try clear c4
  try clear c5
  try clear c6
  try clear d1
  try clear d2
  try clear d3
  try clear d4
  try clear c7
  try clear c8
  try clear c9
  try clear d0
  try clear d5
  try clear d6
  try clear d7
  try clear d8
  obtain ⟨kq, a4, a5, HA, HJ4, a0, a1, a2, HB⟩ := hcut
  cases kq with
  | zero => exact absurd HA.out (by simp [spec_RGHull.j0])
  | succ kj4 =>
   have H := HA.out
   clear HA
   simp only [spec_RGHull.j0] at H
   replace H := Option.bind_eq_some_iff.mp H
   obtain ⟨c0, d9, H⟩ := H
   replace H : ((spec_RGPlace.f kj4 a0_2 a0_3).bind fun b9 => (if c0 > b9 then (some (a4, a5, a1_2, a1_3)) else (some (a4, a5, a0_2, a0_3)))) = some (r1, r2, r3, r4) := H
   have A18 := aM d9
   clear d9
   replace H := Option.bind_eq_some_iff.mp H
   obtain ⟨b9, e0, H⟩ := H
   replace H : (if c0 > b9 then (some (a4, a5, a1_2, a1_3)) else (some (a4, a5, a0_2, a0_3))) = some (r1, r2, r3, r4) := H
   have A19 := aM e0
   clear e0
   by_cases c20 : c0 > b9
   ·rw [if_pos c20] at H
    have c20b0 : decide (b9 < c0) = true := decide_eq_true c20
    clear c20
    simp only [Option.some.injEq, Prod.mk.injEq] at H
    obtain ⟨rfl, rfl, rfl, rfl⟩ := H
    try go_wp2
    have n0_ := aM (bD a0.out)
    have n1_ := aM (bD a1.out)
    have n2_ := aM (bD a2.out)
    have n3_ := aM (wD HB.out)
    clear a0
    clear a1
    clear a2
    clear HB
    have a0 := n0_
    have a1 := n1_
    have a2 := n2_
    have HB := n3_
    clear n0_ n1_ n2_ n3_
    refine start_ (n := 7) (S := fun w' => w'.cell? ⟨a6, 0, none⟩ = some (.int .i64 a1_0) ∧ w'.cell? ⟨a6, 1, none⟩ = some (.int .i64 a1_1) ∧ w'.cell? ⟨a6, 2, none⟩ = some (.int .i64 a1_2) ∧ w'.cell? ⟨a6, 3, none⟩ = some (.int .i64 a1_3) ∧ w'.cell? ⟨a3, 0, none⟩ = some (.int .i64 a4) ∧ w'.cell? ⟨a3, 1, none⟩ = some (.int .i64 a5) ∧ w'.cell? ⟨a3, 2, none⟩ = some (.int .i64 a0_2) ∧ w'.cell? ⟨a3, 3, none⟩ = some (.int .i64 a0_3)) (ds := []) #[false, false, false, false, false, false, false] (by kernel_rfl) rfl rfl ⟨(blk_cell a1.out 0).trans rfl, (blk_cell a1.out 1).trans rfl, (blk_cell a1.out 2).trans rfl, (blk_cell a1.out 3).trans rfl, (blk_cell a0.out 0).trans rfl, (blk_cell a0.out 1).trans rfl, (blk_cell a0.out 2).trans rfl, (blk_cell a0.out 3).trans rfl⟩ (fun hHeld => ?_)
    generalize wc.drew = w21 at a0 a1 a2 HB hHeld ⊢
    refine pure_ (i := 0) (N := some 15) (v := ?_) (a' := ?_) #[true, false, false, false, false, false, false] rfl rfl (by kernel_rfl) (fun _ _ _ h => h) (Or.inl ⟨by rfl, ?_⟩) ?_ ?_
    rotate_left
    ·intro w'
     go_simp
     with_reducible rfl
    rotate_left
    ·simp only [Act.put, List.setIfInBounds_toArray, List.set_cons_zero, List.set_cons_succ, i64_w, i32_w]
     rfl
    refine pure_ (i := 3) (N := some 18) (v := ?_) (a' := ?_) #[true, false, false, true, false, false, false] rfl rfl (by kernel_rfl) (fun _ _ _ h => h) (Or.inl ⟨by rfl, ?_⟩) ?_ ?_
    rotate_left
    ·intro w'
     go_simp
     with_reducible rfl
    rotate_left
    ·simp only [Act.put, List.setIfInBounds_toArray, List.set_cons_zero, List.set_cons_succ, i64_w, i32_w]
     rfl
    refine take_ (i := 1) (N := some 16) (v := ?_) (a' := ?_) #[true, true, false, true, false, false, false] rfl rfl (by kernel_rfl) (fun _ _ _ h => h) (Or.inl ⟨by rfl, ?_⟩) hHeld ?_ ?_
    rotate_left
    ·rintro w' ⟨s0, s1, s2, s3, s4, s5, s6, s7⟩
     go_simp
     with_reducible rfl
    rotate_left
    ·simp only [Act.put, List.setIfInBounds_toArray, List.set_cons_zero, List.set_cons_succ, i64_w, i32_w]
     rfl
    refine take_ (i := 4) (N := some 19) (v := ?_) (a' := ?_) #[true, true, false, true, true, false, false] rfl rfl (by kernel_rfl) (fun _ _ _ h => h) (Or.inl ⟨by rfl, ?_⟩) hHeld ?_ ?_
    rotate_left
    ·rintro w' ⟨s0, s1, s2, s3, s4, s5, s6, s7⟩
     go_simp
     with_reducible rfl
    rotate_left
    ·simp only [Act.put, List.setIfInBounds_toArray, List.set_cons_zero, List.set_cons_succ, i64_w, i32_w]
     rfl
    refine one_ (i := 2) (N := some 17) #[true, true, true, true, true, false, false] rfl rfl (by kernel_rfl) (by decide) (fun K hK => ?_)
    refine goes_ Tryd.func13 (by kernel_rfl) rfl #[.agg #[.int .i64 a1_2, .int .i64 a1_3]] (by rfl) rfl rfl (by (try simp only [List.map_toArray, List.map_cons, List.map_nil]); first | done | rfl | (simp only [List.length_drop, List.length_take]; rfl)) ?_
    with_reducible refine (spec_RGPlace.calls kj4 a1_2 a1_3 c0 _ A18.out).mono ?_
    rintro e w22 ⟨rfl, hb⟩
    refine ⟨_, rfl, ?_⟩
    have n0_ := aM (bB (g := a3) (o := .cells #[.int .i64 a4, .int .i64 a5, .int .i64 a0_2, .int .i64 a0_3] 44 (0, 0)) (by (with_reducible repeat (first | refine bN ?_ _ | refine bD ?_ | refine bA ?_ _)); exact a0.out) hb)
    have n1_ := aM (bB (g := a6) (o := .cells #[.int .i64 a1_0, .int .i64 a1_1, .int .i64 a1_2, .int .i64 a1_3] 44 (0, 0)) (by (with_reducible repeat (first | refine bN ?_ _ | refine bD ?_ | refine bA ?_ _)); exact a1.out) hb)
    have n2_ := aM (bB (g := a7) (o := .cells #[.int .i64 0, .int .i64 0, .int .i64 0, .int .i64 0] 44 (0, 0)) (by (with_reducible repeat (first | refine bN ?_ _ | refine bD ?_ | refine bA ?_ _)); exact a2.out) hb)
    have n3_ := aM (wP (by repeat (first | (with_reducible first | exact HB.out | apply wA | apply wN | apply wD | refine wS ?_ a8.out | refine wS ?_ b0.out | refine wS ?_ b1.out) | exact HB.out)) hb)
    clear a0
    clear a1
    clear a2
    clear HB
    have a0 := n0_
    have a1 := n1_
    have a2 := n2_
    have HB := n3_
    clear n0_ n1_ n2_ n3_
    (try clear hb)
    (try clear hb2)
    (try clear hk)
    (try clear hi)
    refine hK.out _ _ ⟨(blk_cell a1.out 0).trans rfl, (blk_cell a1.out 1).trans rfl, (blk_cell a1.out 2).trans rfl, (blk_cell a1.out 3).trans rfl, (blk_cell a0.out 0).trans rfl, (blk_cell a0.out 1).trans rfl, (blk_cell a0.out 2).trans rfl, (blk_cell a0.out 3).trans rfl⟩ (fun hHeld => ?_)
    clear hK K
    refine norm_ (a' := ?_) ?_ ?_
    rotate_left
    ·show Act.put _ (some 17) _ = _
     simp only [Act.put, List.setIfInBounds_toArray, List.set_cons_zero, List.set_cons_succ, i64_w, i32_w]
     rfl
    refine one_ (i := 5) (N := some 20) #[true, true, true, true, true, true, false] rfl rfl (by kernel_rfl) (by decide) (fun K hK => ?_)
    refine goes_ Tryd.func13 (by kernel_rfl) rfl #[.agg #[.int .i64 a0_2, .int .i64 a0_3]] (by rfl) rfl rfl (by (try simp only [List.map_toArray, List.map_cons, List.map_nil]); first | done | rfl | (simp only [List.length_drop, List.length_take]; rfl)) ?_
    with_reducible refine (spec_RGPlace.calls kj4 a0_2 a0_3 b9 _ A19.out).mono ?_
    rintro e w23 ⟨rfl, hb⟩
    refine ⟨_, rfl, ?_⟩
    have n0_ := aM (bB (g := a3) (o := .cells #[.int .i64 a4, .int .i64 a5, .int .i64 a0_2, .int .i64 a0_3] 44 (0, 0)) (by (with_reducible repeat (first | refine bN ?_ _ | refine bD ?_ | refine bA ?_ _)); exact a0.out) hb)
    have n1_ := aM (bB (g := a6) (o := .cells #[.int .i64 a1_0, .int .i64 a1_1, .int .i64 a1_2, .int .i64 a1_3] 44 (0, 0)) (by (with_reducible repeat (first | refine bN ?_ _ | refine bD ?_ | refine bA ?_ _)); exact a1.out) hb)
    have n2_ := aM (bB (g := a7) (o := .cells #[.int .i64 0, .int .i64 0, .int .i64 0, .int .i64 0] 44 (0, 0)) (by (with_reducible repeat (first | refine bN ?_ _ | refine bD ?_ | refine bA ?_ _)); exact a2.out) hb)
    have n3_ := aM (wP (by repeat (first | (with_reducible first | exact HB.out | apply wA | apply wN | apply wD | refine wS ?_ a8.out | refine wS ?_ b0.out | refine wS ?_ b1.out) | exact HB.out)) hb)
    clear a0
    clear a1
    clear a2
    clear HB
    have a0 := n0_
    have a1 := n1_
    have a2 := n2_
    have HB := n3_
    clear n0_ n1_ n2_ n3_
    (try clear hb)
    (try clear hb2)
    (try clear hk)
    (try clear hi)
    refine hK.out _ _ ⟨(blk_cell a1.out 0).trans rfl, (blk_cell a1.out 1).trans rfl, (blk_cell a1.out 2).trans rfl, (blk_cell a1.out 3).trans rfl, (blk_cell a0.out 0).trans rfl, (blk_cell a0.out 1).trans rfl, (blk_cell a0.out 2).trans rfl, (blk_cell a0.out 3).trans rfl⟩ (fun hHeld => ?_)
    clear hK K
    refine norm_ (a' := ?_) ?_ ?_
    rotate_left
    ·show Act.put _ (some 20) _ = _
     simp only [Act.put, List.setIfInBounds_toArray, List.set_cons_zero, List.set_cons_succ, i64_w, i32_w]
     rfl
    refine pure_ (i := 6) (N := some 21) (v := ?_) (a' := ?_) #[true, true, true, true, true, true, true] rfl rfl (by kernel_rfl) (fun _ _ _ h => h) (Or.inl ⟨by rfl, ?_⟩) ?_ ?_
    rotate_left
    ·intro w'
     go_simp
     with_reducible rfl
    rotate_left
    ·simp only [Act.put, List.setIfInBounds_toArray, List.set_cons_zero, List.set_cons_succ, i64_w, i32_w]
     rfl
    refine done_ (by kernel_rfl) ?_
    have l1 := b2.out
    have l2 := b5.out
    have l3 := b7.out
    have l4 := b8.out
    have e1 : w23.cell? ⟨a6, 0, none⟩ = some (.int .i64 a1_0) := (blk_cell a1.out 0).trans rfl
    have e2 : w23.cell? ⟨a6, 1, none⟩ = some (.int .i64 a1_1) := (blk_cell a1.out 1).trans rfl
    have e3 : w23.cell? ⟨a6, 2, none⟩ = some (.int .i64 a1_2) := (blk_cell a1.out 2).trans rfl
    have e4 : w23.cell? ⟨a6, 3, none⟩ = some (.int .i64 a1_3) := (blk_cell a1.out 3).trans rfl
    have e5 := blk_frozen a1.out 0
    have e6 := blk_frozen a1.out 1
    have e7 := blk_frozen a1.out 2
    have e8 := blk_frozen a1.out 3
    have l5 := b6.out
    have l6 := a9.out
    have e9 : w23.cell? ⟨a3, 0, none⟩ = some (.int .i64 a4) := (blk_cell a0.out 0).trans rfl
    have f0 : w23.cell? ⟨a3, 1, none⟩ = some (.int .i64 a5) := (blk_cell a0.out 1).trans rfl
    have f1 : w23.cell? ⟨a3, 2, none⟩ = some (.int .i64 a0_2) := (blk_cell a0.out 2).trans rfl
    have f2 : w23.cell? ⟨a3, 3, none⟩ = some (.int .i64 a0_3) := (blk_cell a0.out 3).trans rfl
    have f3 := blk_frozen a0.out 0
    have f4 := blk_frozen a0.out 1
    have f5 := blk_frozen a0.out 2
    have f6 := blk_frozen a0.out 3
    have f7 : w23.cell? ⟨a7, 0, none⟩ = some (.int .i64 0) := (blk_cell a2.out 0).trans rfl
    have f8 : w23.cell? ⟨a7, 1, none⟩ = some (.int .i64 0) := (blk_cell a2.out 1).trans rfl
    have f9 : w23.cell? ⟨a7, 2, none⟩ = some (.int .i64 0) := (blk_cell a2.out 2).trans rfl
    have g0 : w23.cell? ⟨a7, 3, none⟩ = some (.int .i64 0) := (blk_cell a2.out 3).trans rfl
    have g1 := blk_frozen a2.out 0
    have g2 := blk_frozen a2.out 1
    have g3 := blk_frozen a2.out 2
    have g4 := blk_frozen a2.out 3
    try go_wp2
    refine bodyPost_ret (results_cell_row rfl _ _ a7 44 #[.int .i64 a4, .int .i64 a5, .int .i64 a1_2, .int .i64 a1_3] (0, 0) _ rfl (by (with_reducible repeat (first | refine bN ?_ _ | refine bD ?_ | refine bA ?_ _)); refine blk_put (cs := #[.int .i64 a4, .int .i64 a5, .int .i64 a1_2, .int .i64 0]) ?_ 3 _ rfl; (with_reducible repeat (first | refine bN ?_ _ | refine bD ?_ | refine bA ?_ _)); refine blk_put (cs := #[.int .i64 a4, .int .i64 a5, .int .i64 0, .int .i64 0]) ?_ 2 _ rfl; (with_reducible repeat (first | refine bN ?_ _ | refine bD ?_ | refine bA ?_ _)); refine blk_put (cs := #[.int .i64 a4, .int .i64 0, .int .i64 0, .int .i64 0]) ?_ 1 _ rfl; (with_reducible repeat (first | refine bN ?_ _ | refine bD ?_ | refine bA ?_ _)); refine blk_put (cs := #[.int .i64 0, .int .i64 0, .int .i64 0, .int .i64 0]) ?_ 0 _ rfl; (with_reducible repeat (first | refine bN ?_ _ | refine bD ?_ | refine bA ?_ _)); refine blk_far ?_ a9.out _; (with_reducible repeat (first | refine bN ?_ _ | refine bD ?_ | refine bA ?_ _)); refine blk_far ?_ a9.out _; (with_reducible repeat (first | refine bN ?_ _ | refine bD ?_ | refine bA ?_ _)); exact a2.out) Tryd.underlying44 rfl (by kernel_rfl)) rfl ?_
    exact ⟨by first | rfl | (simp [errW_none, errW_some] <;> rfl) | (simp [*, errW_none, errW_some] <;> rfl), by repeat (first | (with_reducible first | exact HB.out | apply wA | apply wN | apply wD | refine wS ?_ a8.out | refine wS ?_ b0.out | refine wS ?_ b1.out) | exact HB.out)⟩
   ·rw [if_neg c20] at H
    have c20b0 : decide (b9 < c0) = false := decide_eq_false c20
    clear c20
    simp only [Option.some.injEq, Prod.mk.injEq] at H
    obtain ⟨rfl, rfl, rfl, rfl⟩ := H
    try go_wp2
    have n0_ := aM (bD a0.out)
    have n1_ := aM (bD a1.out)
    have n2_ := aM (bD a2.out)
    have n3_ := aM (wD HB.out)
    clear a0
    clear a1
    clear a2
    clear HB
    have a0 := n0_
    have a1 := n1_
    have a2 := n2_
    have HB := n3_
    clear n0_ n1_ n2_ n3_
    refine start_ (n := 7) (S := fun w' => w'.cell? ⟨a6, 0, none⟩ = some (.int .i64 a1_0) ∧ w'.cell? ⟨a6, 1, none⟩ = some (.int .i64 a1_1) ∧ w'.cell? ⟨a6, 2, none⟩ = some (.int .i64 a1_2) ∧ w'.cell? ⟨a6, 3, none⟩ = some (.int .i64 a1_3) ∧ w'.cell? ⟨a3, 0, none⟩ = some (.int .i64 a4) ∧ w'.cell? ⟨a3, 1, none⟩ = some (.int .i64 a5) ∧ w'.cell? ⟨a3, 2, none⟩ = some (.int .i64 a0_2) ∧ w'.cell? ⟨a3, 3, none⟩ = some (.int .i64 a0_3)) (ds := []) #[false, false, false, false, false, false, false] (by kernel_rfl) rfl rfl ⟨(blk_cell a1.out 0).trans rfl, (blk_cell a1.out 1).trans rfl, (blk_cell a1.out 2).trans rfl, (blk_cell a1.out 3).trans rfl, (blk_cell a0.out 0).trans rfl, (blk_cell a0.out 1).trans rfl, (blk_cell a0.out 2).trans rfl, (blk_cell a0.out 3).trans rfl⟩ (fun hHeld => ?_)
    generalize wc.drew = w30 at a0 a1 a2 HB hHeld ⊢
    refine pure_ (i := 0) (N := some 15) (v := ?_) (a' := ?_) #[true, false, false, false, false, false, false] rfl rfl (by kernel_rfl) (fun _ _ _ h => h) (Or.inl ⟨by rfl, ?_⟩) ?_ ?_
    rotate_left
    ·intro w'
     go_simp
     with_reducible rfl
    rotate_left
    ·simp only [Act.put, List.setIfInBounds_toArray, List.set_cons_zero, List.set_cons_succ, i64_w, i32_w]
     rfl
    refine pure_ (i := 3) (N := some 18) (v := ?_) (a' := ?_) #[true, false, false, true, false, false, false] rfl rfl (by kernel_rfl) (fun _ _ _ h => h) (Or.inl ⟨by rfl, ?_⟩) ?_ ?_
    rotate_left
    ·intro w'
     go_simp
     with_reducible rfl
    rotate_left
    ·simp only [Act.put, List.setIfInBounds_toArray, List.set_cons_zero, List.set_cons_succ, i64_w, i32_w]
     rfl
    refine take_ (i := 1) (N := some 16) (v := ?_) (a' := ?_) #[true, true, false, true, false, false, false] rfl rfl (by kernel_rfl) (fun _ _ _ h => h) (Or.inl ⟨by rfl, ?_⟩) hHeld ?_ ?_
    rotate_left
    ·rintro w' ⟨s0, s1, s2, s3, s4, s5, s6, s7⟩
     go_simp
     with_reducible rfl
    rotate_left
    ·simp only [Act.put, List.setIfInBounds_toArray, List.set_cons_zero, List.set_cons_succ, i64_w, i32_w]
     rfl
    refine take_ (i := 4) (N := some 19) (v := ?_) (a' := ?_) #[true, true, false, true, true, false, false] rfl rfl (by kernel_rfl) (fun _ _ _ h => h) (Or.inl ⟨by rfl, ?_⟩) hHeld ?_ ?_
    rotate_left
    ·rintro w' ⟨s0, s1, s2, s3, s4, s5, s6, s7⟩
     go_simp
     with_reducible rfl
    rotate_left
    ·simp only [Act.put, List.setIfInBounds_toArray, List.set_cons_zero, List.set_cons_succ, i64_w, i32_w]
     rfl
    refine one_ (i := 2) (N := some 17) #[true, true, true, true, true, false, false] rfl rfl (by kernel_rfl) (by decide) (fun K hK => ?_)
    refine goes_ Tryd.func13 (by kernel_rfl) rfl #[.agg #[.int .i64 a1_2, .int .i64 a1_3]] (by rfl) rfl rfl (by (try simp only [List.map_toArray, List.map_cons, List.map_nil]); first | done | rfl | (simp only [List.length_drop, List.length_take]; rfl)) ?_
    with_reducible refine (spec_RGPlace.calls kj4 a1_2 a1_3 c0 _ A18.out).mono ?_
    rintro e w31 ⟨rfl, hb⟩
    refine ⟨_, rfl, ?_⟩
    have n0_ := aM (bB (g := a3) (o := .cells #[.int .i64 a4, .int .i64 a5, .int .i64 a0_2, .int .i64 a0_3] 44 (0, 0)) (by (with_reducible repeat (first | refine bN ?_ _ | refine bD ?_ | refine bA ?_ _)); exact a0.out) hb)
    have n1_ := aM (bB (g := a6) (o := .cells #[.int .i64 a1_0, .int .i64 a1_1, .int .i64 a1_2, .int .i64 a1_3] 44 (0, 0)) (by (with_reducible repeat (first | refine bN ?_ _ | refine bD ?_ | refine bA ?_ _)); exact a1.out) hb)
    have n2_ := aM (bB (g := a7) (o := .cells #[.int .i64 0, .int .i64 0, .int .i64 0, .int .i64 0] 44 (0, 0)) (by (with_reducible repeat (first | refine bN ?_ _ | refine bD ?_ | refine bA ?_ _)); exact a2.out) hb)
    have n3_ := aM (wP (by repeat (first | (with_reducible first | exact HB.out | apply wA | apply wN | apply wD | refine wS ?_ a8.out | refine wS ?_ b0.out | refine wS ?_ b1.out) | exact HB.out)) hb)
    clear a0
    clear a1
    clear a2
    clear HB
    have a0 := n0_
    have a1 := n1_
    have a2 := n2_
    have HB := n3_
    clear n0_ n1_ n2_ n3_
    (try clear hb)
    (try clear hb2)
    (try clear hk)
    (try clear hi)
    refine hK.out _ _ ⟨(blk_cell a1.out 0).trans rfl, (blk_cell a1.out 1).trans rfl, (blk_cell a1.out 2).trans rfl, (blk_cell a1.out 3).trans rfl, (blk_cell a0.out 0).trans rfl, (blk_cell a0.out 1).trans rfl, (blk_cell a0.out 2).trans rfl, (blk_cell a0.out 3).trans rfl⟩ (fun hHeld => ?_)
    clear hK K
    refine norm_ (a' := ?_) ?_ ?_
    rotate_left
    ·show Act.put _ (some 17) _ = _
     simp only [Act.put, List.setIfInBounds_toArray, List.set_cons_zero, List.set_cons_succ, i64_w, i32_w]
     rfl
    refine one_ (i := 5) (N := some 20) #[true, true, true, true, true, true, false] rfl rfl (by kernel_rfl) (by decide) (fun K hK => ?_)
    refine goes_ Tryd.func13 (by kernel_rfl) rfl #[.agg #[.int .i64 a0_2, .int .i64 a0_3]] (by rfl) rfl rfl (by (try simp only [List.map_toArray, List.map_cons, List.map_nil]); first | done | rfl | (simp only [List.length_drop, List.length_take]; rfl)) ?_
    with_reducible refine (spec_RGPlace.calls kj4 a0_2 a0_3 b9 _ A19.out).mono ?_
    rintro e w32 ⟨rfl, hb⟩
    refine ⟨_, rfl, ?_⟩
    have n0_ := aM (bB (g := a3) (o := .cells #[.int .i64 a4, .int .i64 a5, .int .i64 a0_2, .int .i64 a0_3] 44 (0, 0)) (by (with_reducible repeat (first | refine bN ?_ _ | refine bD ?_ | refine bA ?_ _)); exact a0.out) hb)
    have n1_ := aM (bB (g := a6) (o := .cells #[.int .i64 a1_0, .int .i64 a1_1, .int .i64 a1_2, .int .i64 a1_3] 44 (0, 0)) (by (with_reducible repeat (first | refine bN ?_ _ | refine bD ?_ | refine bA ?_ _)); exact a1.out) hb)
    have n2_ := aM (bB (g := a7) (o := .cells #[.int .i64 0, .int .i64 0, .int .i64 0, .int .i64 0] 44 (0, 0)) (by (with_reducible repeat (first | refine bN ?_ _ | refine bD ?_ | refine bA ?_ _)); exact a2.out) hb)
    have n3_ := aM (wP (by repeat (first | (with_reducible first | exact HB.out | apply wA | apply wN | apply wD | refine wS ?_ a8.out | refine wS ?_ b0.out | refine wS ?_ b1.out) | exact HB.out)) hb)
    clear a0
    clear a1
    clear a2
    clear HB
    have a0 := n0_
    have a1 := n1_
    have a2 := n2_
    have HB := n3_
    clear n0_ n1_ n2_ n3_
    (try clear hb)
    (try clear hb2)
    (try clear hk)
    (try clear hi)
    refine hK.out _ _ ⟨(blk_cell a1.out 0).trans rfl, (blk_cell a1.out 1).trans rfl, (blk_cell a1.out 2).trans rfl, (blk_cell a1.out 3).trans rfl, (blk_cell a0.out 0).trans rfl, (blk_cell a0.out 1).trans rfl, (blk_cell a0.out 2).trans rfl, (blk_cell a0.out 3).trans rfl⟩ (fun hHeld => ?_)
    clear hK K
    refine norm_ (a' := ?_) ?_ ?_
    rotate_left
    ·show Act.put _ (some 20) _ = _
     simp only [Act.put, List.setIfInBounds_toArray, List.set_cons_zero, List.set_cons_succ, i64_w, i32_w]
     rfl
    refine pure_ (i := 6) (N := some 21) (v := ?_) (a' := ?_) #[true, true, true, true, true, true, true] rfl rfl (by kernel_rfl) (fun _ _ _ h => h) (Or.inl ⟨by rfl, ?_⟩) ?_ ?_
    rotate_left
    ·intro w'
     go_simp
     with_reducible rfl
    rotate_left
    ·simp only [Act.put, List.setIfInBounds_toArray, List.set_cons_zero, List.set_cons_succ, i64_w, i32_w]
     rfl
    refine done_ (by kernel_rfl) ?_
    have l7 := b5.out
    have l8 := b2.out
    have l9 := b6.out
    have m0 := a9.out
    have g5 : w32.cell? ⟨a3, 0, none⟩ = some (.int .i64 a4) := (blk_cell a0.out 0).trans rfl
    have g6 : w32.cell? ⟨a3, 1, none⟩ = some (.int .i64 a5) := (blk_cell a0.out 1).trans rfl
    have g7 : w32.cell? ⟨a3, 2, none⟩ = some (.int .i64 a0_2) := (blk_cell a0.out 2).trans rfl
    have g8 : w32.cell? ⟨a3, 3, none⟩ = some (.int .i64 a0_3) := (blk_cell a0.out 3).trans rfl
    have g9 := blk_frozen a0.out 0
    have h0 := blk_frozen a0.out 1
    have h1 := blk_frozen a0.out 2
    have h2 := blk_frozen a0.out 3
    have m1 := b8.out
    have m2 := b7.out
    have h3 : w32.cell? ⟨a7, 0, none⟩ = some (.int .i64 0) := (blk_cell a2.out 0).trans rfl
    have h4 : w32.cell? ⟨a7, 1, none⟩ = some (.int .i64 0) := (blk_cell a2.out 1).trans rfl
    have h5 : w32.cell? ⟨a7, 2, none⟩ = some (.int .i64 0) := (blk_cell a2.out 2).trans rfl
    have h6 : w32.cell? ⟨a7, 3, none⟩ = some (.int .i64 0) := (blk_cell a2.out 3).trans rfl
    have h7 := blk_frozen a2.out 0
    have h8 := blk_frozen a2.out 1
    have h9 := blk_frozen a2.out 2
    have j1 := blk_frozen a2.out 3
    try go_wp2
    refine bodyPost_ret (results_cell_row rfl _ _ a7 44 #[.int .i64 a4, .int .i64 a5, .int .i64 a0_2, .int .i64 a0_3] (0, 0) _ rfl (by (with_reducible repeat (first | refine bN ?_ _ | refine bD ?_ | refine bA ?_ _)); refine blk_put (cs := #[.int .i64 a4, .int .i64 a5, .int .i64 a0_2, .int .i64 0]) ?_ 3 _ rfl; (with_reducible repeat (first | refine bN ?_ _ | refine bD ?_ | refine bA ?_ _)); refine blk_put (cs := #[.int .i64 a4, .int .i64 a5, .int .i64 0, .int .i64 0]) ?_ 2 _ rfl; (with_reducible repeat (first | refine bN ?_ _ | refine bD ?_ | refine bA ?_ _)); refine blk_put (cs := #[.int .i64 a4, .int .i64 0, .int .i64 0, .int .i64 0]) ?_ 1 _ rfl; (with_reducible repeat (first | refine bN ?_ _ | refine bD ?_ | refine bA ?_ _)); refine blk_put (cs := #[.int .i64 0, .int .i64 0, .int .i64 0, .int .i64 0]) ?_ 0 _ rfl; (with_reducible repeat (first | refine bN ?_ _ | refine bD ?_ | refine bA ?_ _)); exact a2.out) Tryd.underlying44 rfl (by kernel_rfl)) rfl ?_
    exact ⟨by first | rfl | (simp [errW_none, errW_some] <;> rfl) | (simp [*, errW_none, errW_some] <;> rfl), by repeat (first | (with_reducible first | exact HB.out | apply wA | apply wN | apply wD | refine wS ?_ a8.out | refine wS ?_ b0.out | refine wS ?_ b1.out) | exact HB.out)⟩

end Go.Proofs.YtlcoodjkolponaaDoor.PRU
