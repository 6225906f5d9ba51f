-- written by gprint.py, a program of this claim's own, by means of the kit's print
import Derived.Test.YtlcoodjkolponaaDoorPRA0
import Derived.Test.YtlcoodjkolponaaDoorPRA1
namespace Go.Proofs.YtlcoodjkolponaaDoor.PRA
open Go.RowKit Go.Proofs.YtlcoodjkolponaaDoorW.PrintWords Go.Proofs.YtlcoodjkolponaaDoorW.PrintLast Go.Proofs.YtlcoodjkolponaaDoorW.PrintMore
attribute [local go_sem] max2_int min2_int max_two min_two max_three min_three max_four min_four   -- for this text's walks alone
set_option linter.unusedVariables false
set_option linter.unusedSimpArgs false

/-! ### laws_rgFull: function 21 -/
def laws_rgFull.j0 : Nat → Int → Int → Int → Int → Option (Int × Int × Int × Int)
  | 0, _, _, _, _ => none
  | k + 1, x111000, x111001, x112000, x112001 => (spec_RGPlace.f k x111000 x111001).bind fun t114 => ((spec_RGPlace.f k x112000 x112001).bind fun t115 => (if t114 = t115 then (some (0, 0, 4, 0)) else (some (x111000, x111001, x112000, x112001))))
def laws_rgFull.f (k : Nat) (a0_0 : Int) (a0_1 : Int) (a0_2 : Int) (a0_3 : Int) : Option (Int × Int × Int × Int) := (laws_rgCut.f a0_0 a0_1).bind fun bt106 => ((laws_rgCut.f a0_2 a0_3).bind fun bt108 => ((spec_RGPlace.f k bt106.1 bt106.2).bind fun t112 => ((spec_RGPlace.f k bt108.1 bt108.2).bind fun t113 => (if t112 > t113 then (laws_rgFull.j0 k bt108.1 bt108.2 bt106.1 bt106.2) else (laws_rgFull.j0 k bt106.1 bt106.2 bt108.1 bt108.2)))))
theorem laws_rgFull.mono_l : ∀ k, (∀ y0 y1 y2 y3, LeO (laws_rgFull.j0 k y0 y1 y2 y3) (laws_rgFull.j0 (k + 1) y0 y1 y2 y3))
  | 0 => fun _ _ _ _ r h => by simp [laws_rgFull.j0] at h
  | k + 1 => by
    have ih0 := laws_rgFull.mono_l k
    · intro y0 y1 y2 y3
      unfold laws_rgFull.j0
      repeat' first
      | (with_reducible exact ih0 _ _ _ _)
      | (with_reducible exact spec_RGPlace.mono _ _ _)
      | (with_reducible exact LeO.refl _)
      | (with_reducible exact LeO.none _)
      | (with_reducible refine LeO.ite ?_ ?_)
      | (with_reducible refine LeO.bind ?_ (fun _ => ?_))
      | exact ih0 _ _ _ _
      | exact spec_RGPlace.mono _ _ _
      | exact LeO.none _
      | refine LeO.ite ?_ ?_
      | refine LeO.bind ?_ (fun _ => ?_)
theorem laws_rgFull.mono : ∀ a0 a1 a2 a3 k, LeO (laws_rgFull.f k a0 a1 a2 a3) (laws_rgFull.f (k + 1) a0 a1 a2 a3) := by
  intro a0 a1 a2 a3 k
  have ih0 := laws_rgFull.mono_l k
  unfold laws_rgFull.f
  repeat' first
      | (with_reducible exact ih0 _ _ _ _)
      | (with_reducible exact spec_RGPlace.mono _ _ _)
      | (with_reducible exact LeO.refl _)
      | (with_reducible exact LeO.none _)
      | (with_reducible refine LeO.ite ?_ ?_)
      | (with_reducible refine LeO.bind ?_ (fun _ => ?_))
      | exact ih0 _ _ _ _
      | exact spec_RGPlace.mono _ _ _
      | exact LeO.none _
      | refine LeO.ite ?_ ?_
      | refine LeO.bind ?_ (fun _ => ?_)
def laws_rgFull.T1 : Bool × List (List Nat × List Nat) := (true, [([], []), ([0], [0]), ([1], [1]), ([], []), ([3], [3]), ([4], [4]), ([2, 5], [2, 5]), ([], []), ([7], [7]), ([8], [8]), ([], []), ([10], [10]), ([11], [11]), ([9, 12, 6], [9, 12]), ([], []), ([], []), ([14, 6, 13, 0, 1, 2, 3, 4, 5, 6, 14, 15], [6, 14]), ([15, 13, 16, 0, 1, 2, 3, 4, 5, 6, 7, 8, 9, 10, 11, 12, 13, 14, 15, 16], [13, 15])])
def laws_rgFull.B1 : List Nat := [0, 1, 3, 0, 8, 24, 63, 0, 128, 384, 0, 1024, 3072, 8191, 0, 0, 65535, 131071]
theorem laws_rgFull.tab1 : rtab .any (opsOf Tryd.f21 1) = laws_rgFull.T1 := by kernel_rfl
theorem laws_rgFull.bits1 : waitsOk laws_rgFull.T1.2 laws_rgFull.B1 = true := by kernel_rfl
set_option maxHeartbeats 8000000 in
set_option maxRecDepth 100000 in
theorem laws_rgFull.calls (k : Nat) (a0_0 : Int) (a0_1 : Int) (a0_2 : Int) (a0_3 : Int) (r1 : Int) (r2 : Int) (r3 : Int) (r4 : Int) (w : World) (h : laws_rgFull.f k a0_0 a0_1 a0_2 a0_3 = some (r1, r2, r3, r4)) :
    Calls Tryd.prog 21 #[.agg #[.int .i64 a0_0, .int .i64 a0_1, .int .i64 a0_2, .int .i64 a0_3]] w fun e w' => e = .returned (.agg #[.int .i64 r1, .int .i64 r2, .int .i64 r3, .int .i64 r4]) ∧ Below w.heap.size w w' := by
  have hu44 := Tryd.underlying44
  have hu23 := Tryd.underlying23
  have HB := Aside0.mk (Below.refl w.heap.size w)
  have H : ((laws_rgCut.f a0_0 a0_1).bind fun bt106 => ((laws_rgCut.f a0_2 a0_3).bind fun bt108 => ((spec_RGPlace.f k bt106.1 bt106.2).bind fun t112 => ((spec_RGPlace.f k bt108.1 bt108.2).bind fun t113 => (if t112 > t113 then (laws_rgFull.j0 k bt108.1 bt108.2 bt106.1 bt106.2) else (laws_rgFull.j0 k bt106.1 bt106.2 bt108.1 bt108.2)))))) = some (r1, r2, r3, r4) := h
  clear h
  replace H := Option.bind_eq_some_iff.mp H
  obtain ⟨⟨t106, t107⟩, A20, H⟩ := H
  replace H : ((laws_rgCut.f a0_2 a0_3).bind fun bt108 => ((spec_RGPlace.f k t106 t107).bind fun t112 => ((spec_RGPlace.f k bt108.1 bt108.2).bind fun t113 => (if t112 > t113 then (laws_rgFull.j0 k bt108.1 bt108.2 t106 t107) else (laws_rgFull.j0 k t106 t107 bt108.1 bt108.2))))) = some (r1, r2, r3, r4) := H
  have A2 := Aside0.mk A20
  clear A20
  replace H := Option.bind_eq_some_iff.mp H
  obtain ⟨⟨t108, t109⟩, A30, H⟩ := H
  replace H : ((spec_RGPlace.f k t106 t107).bind fun t112 => ((spec_RGPlace.f k t108 t109).bind fun t113 => (if t112 > t113 then (laws_rgFull.j0 k t108 t109 t106 t107) else (laws_rgFull.j0 k t106 t107 t108 t109)))) = some (r1, r2, r3, r4) := H
  have A3 := Aside0.mk A30
  clear A30
  replace H := Option.bind_eq_some_iff.mp H
  obtain ⟨t112, A40, H⟩ := H
  replace H : ((spec_RGPlace.f k t108 t109).bind fun t113 => (if t112 > t113 then (laws_rgFull.j0 k t108 t109 t106 t107) else (laws_rgFull.j0 k t106 t107 t108 t109))) = some (r1, r2, r3, r4) := H
  have A4 := Aside0.mk A40
  clear A40
  replace H := Option.bind_eq_some_iff.mp H
  obtain ⟨t113, A50, H⟩ := H
  replace H : (if t112 > t113 then (laws_rgFull.j0 k t108 t109 t106 t107) else (laws_rgFull.j0 k t106 t107 t108 t109)) = some (r1, r2, r3, r4) := H
  have A5 := Aside0.mk A50
  clear A50
  have HC6 := Aside0.mk H
  clear H
  go_enter Tryd.func21, Tryd.ntmps21
  try go_wp2_with (first | ((with_reducible refine gate_dst (N := 1) rfl ?_); refine box_event ?hg (N := 1) ?hd (cs := #[.int .i64 a0_0, .int .i64 a0_1, .int .i64 a0_2, .int .i64 a0_3]) (t := 44) ?hr ?_; (case hd => rfl); (case hg => rfl); (case hr => first | (go_simp; done) | (go_simp; rfl)); intro gb104 hg w7 hbox hb; have n0_ := Aside0.mk (below_step (by repeat (first | (with_reducible first | exact HB.out | apply below_alloc | apply pw_below_drewN | apply below_drew1) | exact HB.out)) hb); have n1_ := Aside0.mk (hbox); have n2_ := Aside0.mk ((by rw [hg]; exact (below_size (by repeat (first | (with_reducible first | exact HB.out | apply below_alloc | apply pw_below_drewN | apply below_drew1) | exact HB.out))) : w.heap.size ≤ gb104)); have n3_ := Aside0.mk ((by rw [hg]; exact (below_size (by repeat (first | (with_reducible first | exact HB.out | apply below_alloc | apply pw_below_drewN | apply below_drew1) | exact HB.out))) : w.heap.size ≤ gb104)); clear HB; have HB := n0_; have BK104 := n1_; have GW104 := n2_; have GE104 := n3_; clear n0_ n1_ n2_ n3_; clear hb hbox hg) | ((with_reducible refine gate_dst (N := 2) rfl ?_); refine box_event ?hg (N := 2) ?hd (cs := #[.int .i64 0, .int .i64 0, .int .i64 0, .int .i64 0]) (t := 44) ?hr ?_; (case hd => rfl); (case hg => rfl); (case hr => first | (go_simp; done) | (go_simp; rfl)); intro gb105 hg w8 hbox hb; have n0_ := Aside0.mk (blk_below (g := gb104) (o := .cells #[.int .i64 a0_0, .int .i64 a0_1, .int .i64 a0_2, .int .i64 a0_3] 44 (0, 0)) (by (with_reducible repeat (first | refine blk_drewN ?_ _ | refine blk_drew ?_ | refine blk_alloc ?_ _)); exact BK104.out) hb); have n1_ := Aside0.mk (below_step (by repeat (first | (with_reducible first | exact HB.out | apply below_alloc | apply pw_below_drewN | apply below_drew1 | refine below_set ?_ GE104.out) | exact HB.out)) hb); have n2_ := Aside0.mk (hbox); have n3_ := Aside0.mk ((by rw [hg]; exact (below_size (by repeat (first | (with_reducible first | exact HB.out | apply below_alloc | apply pw_below_drewN | apply below_drew1 | refine below_set ?_ GE104.out) | exact HB.out))) : w.heap.size ≤ gb105)); have n4_ := Aside0.mk ((by rw [hg]; exact (below_size (by repeat (first | (with_reducible first | exact HB.out | apply below_alloc | apply pw_below_drewN | apply below_drew1 | refine below_set ?_ GE104.out) | exact HB.out))) : w.heap.size ≤ gb105)); have n5_ := Aside0.mk ((by rw [hg]; exact Nat.ne_of_lt (blk_lt (g := gb104) (o := .cells #[.int .i64 a0_0, .int .i64 a0_1, .int .i64 a0_2, .int .i64 a0_3] 44 (0, 0)) (by (with_reducible repeat (first | refine blk_drewN ?_ _ | refine blk_drew ?_ | refine blk_alloc ?_ _)); exact BK104.out)) : gb104 ≠ gb105)); have n6_ := Aside0.mk ((by rw [hg]; exact Nat.ne_of_gt (blk_lt (g := gb104) (o := .cells #[.int .i64 a0_0, .int .i64 a0_1, .int .i64 a0_2, .int .i64 a0_3] 44 (0, 0)) (by (with_reducible repeat (first | refine blk_drewN ?_ _ | refine blk_drew ?_ | refine blk_alloc ?_ _)); exact BK104.out)) : gb105 ≠ gb104)); clear BK104; clear HB; have BK104 := n0_; have HB := n1_; have BK105 := n2_; have GW105 := n3_; have GE105 := n4_; have NB104_105 := n5_; have NB105_104 := n6_; clear n0_ n1_ n2_ n3_ n4_ n5_ n6_; clear hb hbox hg))
  have n0_ := Aside0.mk (blk_drew BK104.out)
  have n1_ := Aside0.mk (blk_drew BK105.out)
  have n2_ := Aside0.mk (below_drew1 HB.out)
  clear BK104
  clear BK105
  clear HB
  have BK104 := n0_
  have BK105 := n1_
  have HB := n2_
  clear n0_ n1_ n2_
  refine start_ (n := 18) (S := fun w' => w'.cell? ⟨gb104, 0, none⟩ = some (.int .i64 a0_0) ∧ w'.cell? ⟨gb104, 1, none⟩ = some (.int .i64 a0_1) ∧ w'.cell? ⟨gb104, 2, none⟩ = some (.int .i64 a0_2) ∧ w'.cell? ⟨gb104, 3, none⟩ = some (.int .i64 a0_3)) (ds := []) #[false, false, false, false, false, false, false, false, false, false, false, false, false, false, false, false, false, false] (by kernel_rfl) rfl rfl ⟨(blk_cell BK104.out 0).trans rfl, (blk_cell BK104.out 1).trans rfl, (blk_cell BK104.out 2).trans rfl, (blk_cell BK104.out 3).trans rfl⟩ (fun hHeld => ?_); refine with_tabW laws_rgFull.tab1 laws_rgFull.bits1 (fun HT_ HW_ => ?_)
  generalize w8.drew = w9 at BK104 BK105 HB hHeld ⊢
  refine pure_ (i := 0) (N := some 5) (v := ?_) (a' := ?_) #[true, false, false, false, false, false, false, false, false, false, false, false, false, false, false, false, false, false] rfl rfl (any_of HT_.out (by kernel_rfl)) (fun _ _ _ h => h) (Or.inl ⟨by rfl, ?_⟩) ?_ ?_
  rotate_left
  · intro w'
    go_simp
    with_reducible rfl
  rotate_left
  · simp only [Act.put, List.setIfInBounds_toArray, List.set_cons_zero, List.set_cons_succ, i64_w, i32_w]
    rfl
  refine pure_ (i := 1) (N := some 6) (v := ?_) (a' := ?_) #[true, true, false, false, false, false, false, false, false, false, false, false, false, false, false, false, false, false] rfl rfl (any_of HT_.out (by kernel_rfl)) (fun _ _ _ h => h) (Or.inl ⟨by rfl, ?_⟩) ?_ ?_
  rotate_left
  · intro w'
    go_simp
    with_reducible rfl
  rotate_left
  · simp only [Act.put, List.setIfInBounds_toArray, List.set_cons_zero, List.set_cons_succ, i64_w, i32_w]
    rfl
  refine pure_ (i := 3) (N := some 8) (v := ?_) (a' := ?_) #[true, true, false, true, false, false, false, false, false, false, false, false, false, false, false, false, false, false] rfl rfl (any_of HT_.out (by kernel_rfl)) (fun _ _ _ h => h) (Or.inl ⟨by rfl, ?_⟩) ?_ ?_
  rotate_left
  · intro w'
    go_simp
    with_reducible rfl
  rotate_left
  · simp only [Act.put, List.setIfInBounds_toArray, List.set_cons_zero, List.set_cons_succ, i64_w, i32_w]
    rfl
  refine pure_ (i := 4) (N := some 9) (v := ?_) (a' := ?_) #[true, true, false, true, true, false, false, false, false, false, false, false, false, false, false, false, false, false] rfl rfl (any_of HT_.out (by kernel_rfl)) (fun _ _ _ h => h) (Or.inl ⟨by rfl, ?_⟩) ?_ ?_
  rotate_left
  · intro w'
    go_simp
    with_reducible rfl
  rotate_left
  · simp only [Act.put, List.setIfInBounds_toArray, List.set_cons_zero, List.set_cons_succ, i64_w, i32_w]
    rfl
  refine pure_ (i := 7) (N := some 12) (v := ?_) (a' := ?_) #[true, true, false, true, true, false, false, true, false, false, false, false, false, false, false, false, false, false] rfl rfl (any_of HT_.out (by kernel_rfl)) (fun _ _ _ h => h) (Or.inl ⟨by rfl, ?_⟩) ?_ ?_
  rotate_left
  · intro w'
    go_simp
    with_reducible rfl
  rotate_left
  · simp only [Act.put, List.setIfInBounds_toArray, List.set_cons_zero, List.set_cons_succ, i64_w, i32_w]
    rfl
  refine pure_ (i := 8) (N := some 13) (v := ?_) (a' := ?_) #[true, true, false, true, true, false, false, true, true, false, false, false, false, false, false, false, false, false] rfl rfl (any_of HT_.out (by kernel_rfl)) (fun _ _ _ h => h) (Or.inl ⟨by rfl, ?_⟩) ?_ ?_
  rotate_left
  · intro w'
    go_simp
    with_reducible rfl
  rotate_left
  · simp only [Act.put, List.setIfInBounds_toArray, List.set_cons_zero, List.set_cons_succ, i64_w, i32_w]
    rfl
  refine pure_ (i := 10) (N := some 15) (v := ?_) (a' := ?_) #[true, true, false, true, true, false, false, true, true, false, true, false, false, false, false, false, false, false] rfl rfl (any_of HT_.out (by kernel_rfl)) (fun _ _ _ h => h) (Or.inl ⟨by rfl, ?_⟩) ?_ ?_
  rotate_left
  · intro w'
    go_simp
    with_reducible rfl
  rotate_left
  · simp only [Act.put, List.setIfInBounds_toArray, List.set_cons_zero, List.set_cons_succ, i64_w, i32_w]
    rfl
  refine pure_ (i := 11) (N := some 16) (v := ?_) (a' := ?_) #[true, true, false, true, true, false, false, true, true, false, true, true, false, false, false, false, false, false] rfl rfl (any_of HT_.out (by kernel_rfl)) (fun _ _ _ h => h) (Or.inl ⟨by rfl, ?_⟩) ?_ ?_
  rotate_left
  · intro w'
    go_simp
    with_reducible rfl
  rotate_left
  · simp only [Act.put, List.setIfInBounds_toArray, List.set_cons_zero, List.set_cons_succ, i64_w, i32_w]
    rfl
  refine take_ (i := 2) (N := some 7) (v := ?_) (a' := ?_) #[true, true, true, true, true, false, false, true, true, false, true, true, false, false, false, false, false, false] rfl rfl (take_ofW HT_.out HW_.out (by kernel_rfl)) (fun _ _ _ h => h) (Or.inl ⟨by rfl, ?_⟩) hHeld ?_ ?_
  rotate_left
  · rintro w' ⟨s0, s1, s2, s3⟩
    go_simp
    with_reducible rfl
  rotate_left
  · simp only [Act.put, List.setIfInBounds_toArray, List.set_cons_zero, List.set_cons_succ, i64_w, i32_w]
    rfl
  refine take_ (i := 5) (N := some 10) (v := ?_) (a' := ?_) #[true, true, true, true, true, true, false, true, true, false, true, true, false, false, false, false, false, false] rfl rfl (take_ofW HT_.out HW_.out (by kernel_rfl)) (fun _ _ _ h => h) (Or.inl ⟨by rfl, ?_⟩) hHeld ?_ ?_
  rotate_left
  · rintro w' ⟨s0, s1, s2, s3⟩
    go_simp
    with_reducible rfl
  rotate_left
  · simp only [Act.put, List.setIfInBounds_toArray, List.set_cons_zero, List.set_cons_succ, i64_w, i32_w]
    rfl
  refine take_ (i := 9) (N := some 14) (v := ?_) (a' := ?_) #[true, true, true, true, true, true, false, true, true, true, true, true, false, false, false, false, false, false] rfl rfl (take_ofW HT_.out HW_.out (by kernel_rfl)) (fun _ _ _ h => h) (Or.inl ⟨by rfl, ?_⟩) hHeld ?_ ?_
  rotate_left
  · rintro w' ⟨s0, s1, s2, s3⟩
    go_simp
    with_reducible rfl
  rotate_left
  · simp only [Act.put, List.setIfInBounds_toArray, List.set_cons_zero, List.set_cons_succ, i64_w, i32_w]
    rfl
  refine take_ (i := 12) (N := some 17) (v := ?_) (a' := ?_) #[true, true, true, true, true, true, false, true, true, true, true, true, true, false, false, false, false, false] rfl rfl (take_ofW HT_.out HW_.out (by kernel_rfl)) (fun _ _ _ h => h) (Or.inl ⟨by rfl, ?_⟩) hHeld ?_ ?_
  rotate_left
  · rintro w' ⟨s0, s1, s2, s3⟩
    go_simp
    with_reducible rfl
  rotate_left
  · simp only [Act.put, List.setIfInBounds_toArray, List.set_cons_zero, List.set_cons_succ, i64_w, i32_w]
    rfl
  refine join_ (σ := Nat × Nat) 2 #[true, true, true, true, true, true, true, true, true, true, true, true, true, true, true, true, false, false] (fun s_ => [(11, .agg #[.int .i64 t106, .int .i64 t107]), (18, .agg #[.int .i64 t108, .int .i64 t109]), (3, .pointer (some ⟨s_.1, 0, none⟩)), (4, .pointer (some ⟨s_.2, 0, none⟩))]) (fun s_ w' => (w'.cell? ⟨gb104, 0, none⟩ = some (.int .i64 a0_0) ∧ w'.cell? ⟨gb104, 1, none⟩ = some (.int .i64 a0_1) ∧ w'.cell? ⟨gb104, 2, none⟩ = some (.int .i64 a0_2) ∧ w'.cell? ⟨gb104, 3, none⟩ = some (.int .i64 a0_3)) ∧ (w'.heap[gb104]? = some (.cells #[.int .i64 a0_0, .int .i64 a0_1, .int .i64 a0_2, .int .i64 a0_3] 44 (0, 0))) ∧ (w'.heap[gb105]? = some (.cells #[.int .i64 0, .int .i64 0, .int .i64 0, .int .i64 0] 44 (0, 0))) ∧ (w'.heap[s_.1]? = some (.cells #[.int .i64 0, .int .i64 0] 23 (0, 0))) ∧ (w'.heap[s_.2]? = some (.cells #[.int .i64 0, .int .i64 0] 23 (0, 0))) ∧ (w.heap.size ≤ s_.1) ∧ (w.heap.size ≤ s_.1) ∧ (gb104 ≠ s_.1) ∧ (s_.1 ≠ gb104) ∧ (gb105 ≠ s_.1) ∧ (s_.1 ≠ gb105) ∧ (s_.2 ≠ s_.1) ∧ (s_.1 ≠ s_.2) ∧ (w.heap.size ≤ s_.2) ∧ (w.heap.size ≤ s_.2) ∧ (gb104 ≠ s_.2) ∧ (s_.2 ≠ gb104) ∧ (gb105 ≠ s_.2) ∧ (s_.2 ≠ gb105) ∧ (Below w.heap.size w w')) ?_ ?_
  rotate_left
  · intro hJ6_13_14_15
    refine join_ (σ := Nat) 3 #[true, true, true, true, true, true, true, true, true, true, true, true, true, true, true, false, false, false] (fun s_ => [(11, .agg #[.int .i64 t106, .int .i64 t107]), (18, .agg #[.int .i64 t108, .int .i64 t109]), (3, .pointer (some ⟨s_, 0, none⟩))]) (fun s_ w' => (w'.cell? ⟨gb104, 0, none⟩ = some (.int .i64 a0_0) ∧ w'.cell? ⟨gb104, 1, none⟩ = some (.int .i64 a0_1) ∧ w'.cell? ⟨gb104, 2, none⟩ = some (.int .i64 a0_2) ∧ w'.cell? ⟨gb104, 3, none⟩ = some (.int .i64 a0_3)) ∧ (w'.heap[gb104]? = some (.cells #[.int .i64 a0_0, .int .i64 a0_1, .int .i64 a0_2, .int .i64 a0_3] 44 (0, 0))) ∧ (w'.heap[gb105]? = some (.cells #[.int .i64 0, .int .i64 0, .int .i64 0, .int .i64 0] 44 (0, 0))) ∧ (w'.heap[s_]? = some (.cells #[.int .i64 0, .int .i64 0] 23 (0, 0))) ∧ (w.heap.size ≤ s_) ∧ (w.heap.size ≤ s_) ∧ (gb104 ≠ s_) ∧ (s_ ≠ gb104) ∧ (gb105 ≠ s_) ∧ (s_ ≠ gb105) ∧ (Below w.heap.size w w')) ?_ ?_
    rotate_left
    · intro hJ6_13_14
      refine join_ (σ := Nat) 3 #[true, true, true, true, true, true, true, true, true, true, true, true, true, true, false, true, false, false] (fun s_ => [(11, .agg #[.int .i64 t106, .int .i64 t107]), (18, .agg #[.int .i64 t108, .int .i64 t109]), (4, .pointer (some ⟨s_, 0, none⟩))]) (fun s_ w' => (w'.cell? ⟨gb104, 0, none⟩ = some (.int .i64 a0_0) ∧ w'.cell? ⟨gb104, 1, none⟩ = some (.int .i64 a0_1) ∧ w'.cell? ⟨gb104, 2, none⟩ = some (.int .i64 a0_2) ∧ w'.cell? ⟨gb104, 3, none⟩ = some (.int .i64 a0_3)) ∧ (w'.heap[gb104]? = some (.cells #[.int .i64 a0_0, .int .i64 a0_1, .int .i64 a0_2, .int .i64 a0_3] 44 (0, 0))) ∧ (w'.heap[gb105]? = some (.cells #[.int .i64 0, .int .i64 0, .int .i64 0, .int .i64 0] 44 (0, 0))) ∧ (w'.heap[s_]? = some (.cells #[.int .i64 0, .int .i64 0] 23 (0, 0))) ∧ (w.heap.size ≤ s_) ∧ (w.heap.size ≤ s_) ∧ (gb104 ≠ s_) ∧ (s_ ≠ gb104) ∧ (gb105 ≠ s_) ∧ (s_ ≠ gb105) ∧ (Below w.heap.size w w')) ?_ ?_
      rotate_left
      · intro hJ6_13_15
        refine join_ (σ := Nat × Nat) 3 #[true, true, true, true, true, true, true, true, true, true, true, true, true, false, true, true, false, false] (fun s_ => [(11, .agg #[.int .i64 t106, .int .i64 t107]), (3, .pointer (some ⟨s_.1, 0, none⟩)), (4, .pointer (some ⟨s_.2, 0, none⟩))]) (fun s_ w' => (w'.cell? ⟨gb104, 0, none⟩ = some (.int .i64 a0_0) ∧ w'.cell? ⟨gb104, 1, none⟩ = some (.int .i64 a0_1) ∧ w'.cell? ⟨gb104, 2, none⟩ = some (.int .i64 a0_2) ∧ w'.cell? ⟨gb104, 3, none⟩ = some (.int .i64 a0_3)) ∧ (w'.heap[gb104]? = some (.cells #[.int .i64 a0_0, .int .i64 a0_1, .int .i64 a0_2, .int .i64 a0_3] 44 (0, 0))) ∧ (w'.heap[gb105]? = some (.cells #[.int .i64 0, .int .i64 0, .int .i64 0, .int .i64 0] 44 (0, 0))) ∧ (w'.heap[s_.1]? = some (.cells #[.int .i64 0, .int .i64 0] 23 (0, 0))) ∧ (w'.heap[s_.2]? = some (.cells #[.int .i64 0, .int .i64 0] 23 (0, 0))) ∧ (w.heap.size ≤ s_.1) ∧ (w.heap.size ≤ s_.1) ∧ (gb104 ≠ s_.1) ∧ (s_.1 ≠ gb104) ∧ (gb105 ≠ s_.1) ∧ (s_.1 ≠ gb105) ∧ (s_.2 ≠ s_.1) ∧ (s_.1 ≠ s_.2) ∧ (w.heap.size ≤ s_.2) ∧ (w.heap.size ≤ s_.2) ∧ (gb104 ≠ s_.2) ∧ (s_.2 ≠ gb104) ∧ (gb105 ≠ s_.2) ∧ (s_.2 ≠ gb105) ∧ (Below w.heap.size w w')) ?_ ?_
        rotate_left
        · intro hJ6_14_15
          refine join_ (σ := Unit) 4 #[true, true, true, true, true, true, true, true, true, true, true, true, true, true, false, false, false, false] (fun s_ => [(11, .agg #[.int .i64 t106, .int .i64 t107]), (18, .agg #[.int .i64 t108, .int .i64 t109])]) (fun s_ w' => (w'.cell? ⟨gb104, 0, none⟩ = some (.int .i64 a0_0) ∧ w'.cell? ⟨gb104, 1, none⟩ = some (.int .i64 a0_1) ∧ w'.cell? ⟨gb104, 2, none⟩ = some (.int .i64 a0_2) ∧ w'.cell? ⟨gb104, 3, none⟩ = some (.int .i64 a0_3)) ∧ (w'.heap[gb104]? = some (.cells #[.int .i64 a0_0, .int .i64 a0_1, .int .i64 a0_2, .int .i64 a0_3] 44 (0, 0))) ∧ (w'.heap[gb105]? = some (.cells #[.int .i64 0, .int .i64 0, .int .i64 0, .int .i64 0] 44 (0, 0))) ∧ (Below w.heap.size w w')) ?_ ?_
          rotate_left
          · intro hJ6_13
            refine join_ (σ := Nat) 4 #[true, true, true, true, true, true, true, true, true, true, true, true, true, false, true, false, false, false] (fun s_ => [(11, .agg #[.int .i64 t106, .int .i64 t107]), (3, .pointer (some ⟨s_, 0, none⟩))]) (fun s_ w' => (w'.cell? ⟨gb104, 0, none⟩ = some (.int .i64 a0_0) ∧ w'.cell? ⟨gb104, 1, none⟩ = some (.int .i64 a0_1) ∧ w'.cell? ⟨gb104, 2, none⟩ = some (.int .i64 a0_2) ∧ w'.cell? ⟨gb104, 3, none⟩ = some (.int .i64 a0_3)) ∧ (w'.heap[gb104]? = some (.cells #[.int .i64 a0_0, .int .i64 a0_1, .int .i64 a0_2, .int .i64 a0_3] 44 (0, 0))) ∧ (w'.heap[gb105]? = some (.cells #[.int .i64 0, .int .i64 0, .int .i64 0, .int .i64 0] 44 (0, 0))) ∧ (w'.heap[s_]? = some (.cells #[.int .i64 0, .int .i64 0] 23 (0, 0))) ∧ (w.heap.size ≤ s_) ∧ (w.heap.size ≤ s_) ∧ (gb104 ≠ s_) ∧ (s_ ≠ gb104) ∧ (gb105 ≠ s_) ∧ (s_ ≠ gb105) ∧ (Below w.heap.size w w')) ?_ ?_
            rotate_left
            · intro hJ6_14
              refine join_ (σ := Nat) 4 #[true, true, true, true, true, true, true, true, true, true, true, true, true, false, false, true, false, false] (fun s_ => [(11, .agg #[.int .i64 t106, .int .i64 t107]), (4, .pointer (some ⟨s_, 0, none⟩))]) (fun s_ w' => (w'.cell? ⟨gb104, 0, none⟩ = some (.int .i64 a0_0) ∧ w'.cell? ⟨gb104, 1, none⟩ = some (.int .i64 a0_1) ∧ w'.cell? ⟨gb104, 2, none⟩ = some (.int .i64 a0_2) ∧ w'.cell? ⟨gb104, 3, none⟩ = some (.int .i64 a0_3)) ∧ (w'.heap[gb104]? = some (.cells #[.int .i64 a0_0, .int .i64 a0_1, .int .i64 a0_2, .int .i64 a0_3] 44 (0, 0))) ∧ (w'.heap[gb105]? = some (.cells #[.int .i64 0, .int .i64 0, .int .i64 0, .int .i64 0] 44 (0, 0))) ∧ (w'.heap[s_]? = some (.cells #[.int .i64 0, .int .i64 0] 23 (0, 0))) ∧ (w.heap.size ≤ s_) ∧ (w.heap.size ≤ s_) ∧ (gb104 ≠ s_) ∧ (s_ ≠ gb104) ∧ (gb105 ≠ s_) ∧ (s_ ≠ gb105) ∧ (Below w.heap.size w w')) ?_ ?_
              rotate_left
              · intro hJ6_15
                refine join_ (σ := Nat × Nat) 4 #[true, true, true, true, true, true, false, true, true, true, true, true, true, false, true, true, false, false] (fun s_ => [(3, .pointer (some ⟨s_.1, 0, none⟩)), (4, .pointer (some ⟨s_.2, 0, none⟩))]) (fun s_ w' => (w'.cell? ⟨gb104, 0, none⟩ = some (.int .i64 a0_0) ∧ w'.cell? ⟨gb104, 1, none⟩ = some (.int .i64 a0_1) ∧ w'.cell? ⟨gb104, 2, none⟩ = some (.int .i64 a0_2) ∧ w'.cell? ⟨gb104, 3, none⟩ = some (.int .i64 a0_3)) ∧ (w'.heap[gb104]? = some (.cells #[.int .i64 a0_0, .int .i64 a0_1, .int .i64 a0_2, .int .i64 a0_3] 44 (0, 0))) ∧ (w'.heap[gb105]? = some (.cells #[.int .i64 0, .int .i64 0, .int .i64 0, .int .i64 0] 44 (0, 0))) ∧ (w'.heap[s_.1]? = some (.cells #[.int .i64 0, .int .i64 0] 23 (0, 0))) ∧ (w'.heap[s_.2]? = some (.cells #[.int .i64 0, .int .i64 0] 23 (0, 0))) ∧ (w.heap.size ≤ s_.1) ∧ (w.heap.size ≤ s_.1) ∧ (gb104 ≠ s_.1) ∧ (s_.1 ≠ gb104) ∧ (gb105 ≠ s_.1) ∧ (s_.1 ≠ gb105) ∧ (s_.2 ≠ s_.1) ∧ (s_.1 ≠ s_.2) ∧ (w.heap.size ≤ s_.2) ∧ (w.heap.size ≤ s_.2) ∧ (gb104 ≠ s_.2) ∧ (s_.2 ≠ gb104) ∧ (gb105 ≠ s_.2) ∧ (s_.2 ≠ gb105) ∧ (Below w.heap.size w w')) ?_ ?_
                rotate_left
                · intro hJ14_15
                  refine join_ (σ := Unit) 5 #[true, true, true, true, true, true, true, true, true, true, true, true, true, false, false, false, false, false] (fun s_ => [(11, .agg #[.int .i64 t106, .int .i64 t107])]) (fun s_ w' => (w'.cell? ⟨gb104, 0, none⟩ = some (.int .i64 a0_0) ∧ w'.cell? ⟨gb104, 1, none⟩ = some (.int .i64 a0_1) ∧ w'.cell? ⟨gb104, 2, none⟩ = some (.int .i64 a0_2) ∧ w'.cell? ⟨gb104, 3, none⟩ = some (.int .i64 a0_3)) ∧ (w'.heap[gb104]? = some (.cells #[.int .i64 a0_0, .int .i64 a0_1, .int .i64 a0_2, .int .i64 a0_3] 44 (0, 0))) ∧ (w'.heap[gb105]? = some (.cells #[.int .i64 0, .int .i64 0, .int .i64 0, .int .i64 0] 44 (0, 0))) ∧ (Below w.heap.size w w')) ?_ ?_
                  rotate_left
                  · intro hJ6
                    refine join_ (σ := Nat) 5 #[true, true, true, true, true, true, false, true, true, true, true, true, true, false, true, false, false, false] (fun s_ => [(3, .pointer (some ⟨s_, 0, none⟩))]) (fun s_ w' => (w'.cell? ⟨gb104, 0, none⟩ = some (.int .i64 a0_0) ∧ w'.cell? ⟨gb104, 1, none⟩ = some (.int .i64 a0_1) ∧ w'.cell? ⟨gb104, 2, none⟩ = some (.int .i64 a0_2) ∧ w'.cell? ⟨gb104, 3, none⟩ = some (.int .i64 a0_3)) ∧ (w'.heap[gb104]? = some (.cells #[.int .i64 a0_0, .int .i64 a0_1, .int .i64 a0_2, .int .i64 a0_3] 44 (0, 0))) ∧ (w'.heap[gb105]? = some (.cells #[.int .i64 0, .int .i64 0, .int .i64 0, .int .i64 0] 44 (0, 0))) ∧ (w'.heap[s_]? = some (.cells #[.int .i64 0, .int .i64 0] 23 (0, 0))) ∧ (w.heap.size ≤ s_) ∧ (w.heap.size ≤ s_) ∧ (gb104 ≠ s_) ∧ (s_ ≠ gb104) ∧ (gb105 ≠ s_) ∧ (s_ ≠ gb105) ∧ (Below w.heap.size w w')) ?_ ?_
                    rotate_left
                    · intro hJ14
                      refine join_ (σ := Nat) 5 #[true, true, true, true, true, true, false, true, true, true, true, true, true, false, false, true, false, false] (fun s_ => [(4, .pointer (some ⟨s_, 0, none⟩))]) (fun s_ w' => (w'.cell? ⟨gb104, 0, none⟩ = some (.int .i64 a0_0) ∧ w'.cell? ⟨gb104, 1, none⟩ = some (.int .i64 a0_1) ∧ w'.cell? ⟨gb104, 2, none⟩ = some (.int .i64 a0_2) ∧ w'.cell? ⟨gb104, 3, none⟩ = some (.int .i64 a0_3)) ∧ (w'.heap[gb104]? = some (.cells #[.int .i64 a0_0, .int .i64 a0_1, .int .i64 a0_2, .int .i64 a0_3] 44 (0, 0))) ∧ (w'.heap[gb105]? = some (.cells #[.int .i64 0, .int .i64 0, .int .i64 0, .int .i64 0] 44 (0, 0))) ∧ (w'.heap[s_]? = some (.cells #[.int .i64 0, .int .i64 0] 23 (0, 0))) ∧ (w.heap.size ≤ s_) ∧ (w.heap.size ≤ s_) ∧ (gb104 ≠ s_) ∧ (s_ ≠ gb104) ∧ (gb105 ≠ s_) ∧ (s_ ≠ gb105) ∧ (Below w.heap.size w w')) ?_ ?_
                      rotate_left
                      · intro hJ15
                        refine three_ (i := 6) (j := 14) (k := 15) (Ni := some 11) (Nj := some 3) (Nk := some 4) #[true, true, true, true, true, true, true, true, true, true, true, true, true, false, false, false, false, false] #[true, true, true, true, true, true, false, true, true, true, true, true, true, false, true, false, false, false] #[true, true, true, true, true, true, false, true, true, true, true, true, true, false, false, true, false, false] rfl rfl rfl rfl rfl rfl (three_of HT_.out (by kernel_rfl)) (by decide) (by decide) (by decide) (fun K hK => ?_) (fun K hK => ?_) (fun K hK => ?_)
                        · skip
                          refine goes_ Tryd.func10 (by kernel_rfl) rfl #[.int .i64 a0_0, .int .i64 a0_1] (by rfl) rfl rfl (by (try simp only [List.map_toArray, List.map_cons, List.map_nil]); first | done | rfl | (simp only [List.length_drop, List.length_take]; rfl)) ?_
                          with_reducible refine (laws_rgCut.calls a0_0 a0_1 t106 t107 _ A2.out).mono ?_
                          rintro e w10 ⟨rfl, hb⟩
                          refine ⟨_, rfl, ?_⟩
                          have n0_ := Aside0.mk (blk_below (g := gb104) (o := .cells #[.int .i64 a0_0, .int .i64 a0_1, .int .i64 a0_2, .int .i64 a0_3] 44 (0, 0)) (by (with_reducible repeat (first | refine blk_drewN ?_ _ | refine blk_drew ?_ | refine blk_alloc ?_ _)); exact BK104.out) hb)
                          have n1_ := Aside0.mk (blk_below (g := gb105) (o := .cells #[.int .i64 0, .int .i64 0, .int .i64 0, .int .i64 0] 44 (0, 0)) (by (with_reducible repeat (first | refine blk_drewN ?_ _ | refine blk_drew ?_ | refine blk_alloc ?_ _)); exact BK105.out) hb)
                          have n2_ := Aside0.mk (below_step (by repeat (first | (with_reducible first | exact HB.out | apply below_alloc | apply pw_below_drewN | apply below_drew1 | refine below_set ?_ GE104.out | refine below_set ?_ GE105.out) | exact HB.out)) hb)
                          clear BK104
                          clear BK105
                          clear HB
                          have BK104 := n0_
                          have BK105 := n1_
                          have HB := n2_
                          clear n0_ n1_ n2_
                          (try clear hb)
                          (try clear hb2)
                          (try clear hk)
                          (try clear hi)
                          refine hK.out _ _ ⟨(blk_cell BK104.out 0).trans rfl, (blk_cell BK104.out 1).trans rfl, (blk_cell BK104.out 2).trans rfl, (blk_cell BK104.out 3).trans rfl⟩ (fun hHeld => ?_)
                          clear hK K
                          refine norm_ (a' := ?_) ?_ ?_
                          rotate_left
                          · show Act.put _ (some 11) _ = _
                            simp only [Act.put, List.setIfInBounds_toArray, List.set_cons_zero, List.set_cons_succ, i64_w, i32_w]
                            rfl
                          exact norm_ (by first | (simp only [putAll, Act.put, List.setIfInBounds_toArray, List.set_cons_zero, List.set_cons_succ]; done) | (simp only [putAll, Act.put, List.setIfInBounds_toArray, List.set_cons_zero, List.set_cons_succ]; rfl)) (hJ6 () _ ⟨hHeld, (by (with_reducible repeat (first | refine blk_drewN ?_ _ | refine blk_drew ?_ | refine blk_alloc ?_ _)); exact BK104.out), (by (with_reducible repeat (first | refine blk_drewN ?_ _ | refine blk_drew ?_ | refine blk_alloc ?_ _)); exact BK105.out), (by repeat (first | (with_reducible first | exact HB.out | apply below_alloc | apply pw_below_drewN | apply below_drew1 | refine below_set ?_ GE104.out | refine below_set ?_ GE105.out) | exact HB.out))⟩)
                        · skip
                          refine box_step ?hg (N := 3) ?hd (cs := #[.int .i64 0, .int .i64 0]) (t := 23) ?hr ?_; (case hd => rfl); (case hg => rfl); (case hr => first | (go_simp; done) | (go_simp; rfl))
                          intro gb110 hg w10 hbox hb
                          have n0_ := Aside0.mk (blk_below (g := gb104) (o := .cells #[.int .i64 a0_0, .int .i64 a0_1, .int .i64 a0_2, .int .i64 a0_3] 44 (0, 0)) (by (with_reducible repeat (first | refine blk_drewN ?_ _ | refine blk_drew ?_ | refine blk_alloc ?_ _)); exact BK104.out) hb)
                          have n1_ := Aside0.mk (blk_below (g := gb105) (o := .cells #[.int .i64 0, .int .i64 0, .int .i64 0, .int .i64 0] 44 (0, 0)) (by (with_reducible repeat (first | refine blk_drewN ?_ _ | refine blk_drew ?_ | refine blk_alloc ?_ _)); exact BK105.out) hb)
                          have n2_ := Aside0.mk (below_step (by repeat (first | (with_reducible first | exact HB.out | apply below_alloc | apply pw_below_drewN | apply below_drew1 | refine below_set ?_ GE104.out | refine below_set ?_ GE105.out) | exact HB.out)) hb)
                          have n3_ := Aside0.mk (hbox)
                          have n4_ := Aside0.mk ((by rw [hg]; exact (below_size (by repeat (first | (with_reducible first | exact HB.out | apply below_alloc | apply pw_below_drewN | apply below_drew1 | refine below_set ?_ GE104.out | refine below_set ?_ GE105.out) | exact HB.out))) : w.heap.size ≤ gb110))
                          have n5_ := Aside0.mk ((by rw [hg]; exact (below_size (by repeat (first | (with_reducible first | exact HB.out | apply below_alloc | apply pw_below_drewN | apply below_drew1 | refine below_set ?_ GE104.out | refine below_set ?_ GE105.out) | exact HB.out))) : w.heap.size ≤ gb110))
                          have n6_ := Aside0.mk ((by rw [hg]; exact Nat.ne_of_lt (blk_lt (g := gb104) (o := .cells #[.int .i64 a0_0, .int .i64 a0_1, .int .i64 a0_2, .int .i64 a0_3] 44 (0, 0)) (by (with_reducible repeat (first | refine blk_drewN ?_ _ | refine blk_drew ?_ | refine blk_alloc ?_ _)); exact BK104.out)) : gb104 ≠ gb110))
                          have n7_ := Aside0.mk ((by rw [hg]; exact Nat.ne_of_gt (blk_lt (g := gb104) (o := .cells #[.int .i64 a0_0, .int .i64 a0_1, .int .i64 a0_2, .int .i64 a0_3] 44 (0, 0)) (by (with_reducible repeat (first | refine blk_drewN ?_ _ | refine blk_drew ?_ | refine blk_alloc ?_ _)); exact BK104.out)) : gb110 ≠ gb104))
                          have n8_ := Aside0.mk ((by rw [hg]; exact Nat.ne_of_lt (blk_lt (g := gb105) (o := .cells #[.int .i64 0, .int .i64 0, .int .i64 0, .int .i64 0] 44 (0, 0)) (by (with_reducible repeat (first | refine blk_drewN ?_ _ | refine blk_drew ?_ | refine blk_alloc ?_ _)); exact BK105.out)) : gb105 ≠ gb110))
                          have n9_ := Aside0.mk ((by rw [hg]; exact Nat.ne_of_gt (blk_lt (g := gb105) (o := .cells #[.int .i64 0, .int .i64 0, .int .i64 0, .int .i64 0] 44 (0, 0)) (by (with_reducible repeat (first | refine blk_drewN ?_ _ | refine blk_drew ?_ | refine blk_alloc ?_ _)); exact BK105.out)) : gb110 ≠ gb105))
                          clear BK104
                          clear BK105
                          clear HB
                          have BK104 := n0_
                          have BK105 := n1_
                          have HB := n2_
                          have BK110 := n3_
                          have GW110 := n4_
                          have GE110 := n5_
                          have NB104_110 := n6_
                          have NB110_104 := n7_
                          have NB105_110 := n8_
                          have NB110_105 := n9_
                          clear n0_ n1_ n2_ n3_ n4_ n5_ n6_ n7_ n8_ n9_
                          clear hb hbox hg
                          refine hK.out _ _ ⟨(blk_cell BK104.out 0).trans rfl, (blk_cell BK104.out 1).trans rfl, (blk_cell BK104.out 2).trans rfl, (blk_cell BK104.out 3).trans rfl⟩ (fun hHeld => ?_)
                          clear hK K
                          refine norm_ (a' := ?_) ?_ ?_
                          rotate_left
                          · show Act.put _ (some 3) _ = _
                            simp only [Act.put, List.setIfInBounds_toArray, List.set_cons_zero, List.set_cons_succ, i64_w, i32_w]
                            rfl
                          exact norm_ (by first | (simp only [putAll, Act.put, List.setIfInBounds_toArray, List.set_cons_zero, List.set_cons_succ]; done) | (simp only [putAll, Act.put, List.setIfInBounds_toArray, List.set_cons_zero, List.set_cons_succ]; rfl)) (hJ14 (gb110) _ ⟨hHeld, (by (with_reducible repeat (first | refine blk_drewN ?_ _ | refine blk_drew ?_ | refine blk_alloc ?_ _)); exact BK104.out), (by (with_reducible repeat (first | refine blk_drewN ?_ _ | refine blk_drew ?_ | refine blk_alloc ?_ _)); exact BK105.out), (by (with_reducible repeat (first | refine blk_drewN ?_ _ | refine blk_drew ?_ | refine blk_alloc ?_ _)); exact BK110.out), GW110.out, GE110.out, NB104_110.out, NB110_104.out, NB105_110.out, NB110_105.out, (by repeat (first | (with_reducible first | exact HB.out | apply below_alloc | apply pw_below_drewN | apply below_drew1 | refine below_set ?_ GE104.out | refine below_set ?_ GE105.out | refine below_set ?_ GE110.out) | exact HB.out))⟩)
                        · skip
                          refine box_step ?hg (N := 4) ?hd (cs := #[.int .i64 0, .int .i64 0]) (t := 23) ?hr ?_; (case hd => rfl); (case hg => rfl); (case hr => first | (go_simp; done) | (go_simp; rfl))
                          intro gb111 hg w10 hbox hb
                          have n0_ := Aside0.mk (blk_below (g := gb104) (o := .cells #[.int .i64 a0_0, .int .i64 a0_1, .int .i64 a0_2, .int .i64 a0_3] 44 (0, 0)) (by (with_reducible repeat (first | refine blk_drewN ?_ _ | refine blk_drew ?_ | refine blk_alloc ?_ _)); exact BK104.out) hb)
                          have n1_ := Aside0.mk (blk_below (g := gb105) (o := .cells #[.int .i64 0, .int .i64 0, .int .i64 0, .int .i64 0] 44 (0, 0)) (by (with_reducible repeat (first | refine blk_drewN ?_ _ | refine blk_drew ?_ | refine blk_alloc ?_ _)); exact BK105.out) hb)
                          have n2_ := Aside0.mk (below_step (by repeat (first | (with_reducible first | exact HB.out | apply below_alloc | apply pw_below_drewN | apply below_drew1 | refine below_set ?_ GE104.out | refine below_set ?_ GE105.out) | exact HB.out)) hb)
                          have n3_ := Aside0.mk (hbox)
                          have n4_ := Aside0.mk ((by rw [hg]; exact (below_size (by repeat (first | (with_reducible first | exact HB.out | apply below_alloc | apply pw_below_drewN | apply below_drew1 | refine below_set ?_ GE104.out | refine below_set ?_ GE105.out) | exact HB.out))) : w.heap.size ≤ gb111))
                          have n5_ := Aside0.mk ((by rw [hg]; exact (below_size (by repeat (first | (with_reducible first | exact HB.out | apply below_alloc | apply pw_below_drewN | apply below_drew1 | refine below_set ?_ GE104.out | refine below_set ?_ GE105.out) | exact HB.out))) : w.heap.size ≤ gb111))
                          have n6_ := Aside0.mk ((by rw [hg]; exact Nat.ne_of_lt (blk_lt (g := gb104) (o := .cells #[.int .i64 a0_0, .int .i64 a0_1, .int .i64 a0_2, .int .i64 a0_3] 44 (0, 0)) (by (with_reducible repeat (first | refine blk_drewN ?_ _ | refine blk_drew ?_ | refine blk_alloc ?_ _)); exact BK104.out)) : gb104 ≠ gb111))
                          have n7_ := Aside0.mk ((by rw [hg]; exact Nat.ne_of_gt (blk_lt (g := gb104) (o := .cells #[.int .i64 a0_0, .int .i64 a0_1, .int .i64 a0_2, .int .i64 a0_3] 44 (0, 0)) (by (with_reducible repeat (first | refine blk_drewN ?_ _ | refine blk_drew ?_ | refine blk_alloc ?_ _)); exact BK104.out)) : gb111 ≠ gb104))
                          have n8_ := Aside0.mk ((by rw [hg]; exact Nat.ne_of_lt (blk_lt (g := gb105) (o := .cells #[.int .i64 0, .int .i64 0, .int .i64 0, .int .i64 0] 44 (0, 0)) (by (with_reducible repeat (first | refine blk_drewN ?_ _ | refine blk_drew ?_ | refine blk_alloc ?_ _)); exact BK105.out)) : gb105 ≠ gb111))
                          have n9_ := Aside0.mk ((by rw [hg]; exact Nat.ne_of_gt (blk_lt (g := gb105) (o := .cells #[.int .i64 0, .int .i64 0, .int .i64 0, .int .i64 0] 44 (0, 0)) (by (with_reducible repeat (first | refine blk_drewN ?_ _ | refine blk_drew ?_ | refine blk_alloc ?_ _)); exact BK105.out)) : gb111 ≠ gb105))
                          clear BK104
                          clear BK105
                          clear HB
                          have BK104 := n0_
                          have BK105 := n1_
                          have HB := n2_
                          have BK111 := n3_
                          have GW111 := n4_
                          have GE111 := n5_
                          have NB104_111 := n6_
                          have NB111_104 := n7_
                          have NB105_111 := n8_
                          have NB111_105 := n9_
                          clear n0_ n1_ n2_ n3_ n4_ n5_ n6_ n7_ n8_ n9_
                          clear hb hbox hg
                          refine hK.out _ _ ⟨(blk_cell BK104.out 0).trans rfl, (blk_cell BK104.out 1).trans rfl, (blk_cell BK104.out 2).trans rfl, (blk_cell BK104.out 3).trans rfl⟩ (fun hHeld => ?_)
                          clear hK K
                          refine norm_ (a' := ?_) ?_ ?_
                          rotate_left
                          · show Act.put _ (some 4) _ = _
                            simp only [Act.put, List.setIfInBounds_toArray, List.set_cons_zero, List.set_cons_succ, i64_w, i32_w]
                            rfl
                          exact norm_ (by first | (simp only [putAll, Act.put, List.setIfInBounds_toArray, List.set_cons_zero, List.set_cons_succ]; done) | (simp only [putAll, Act.put, List.setIfInBounds_toArray, List.set_cons_zero, List.set_cons_succ]; rfl)) (hJ15 (gb111) _ ⟨hHeld, (by (with_reducible repeat (first | refine blk_drewN ?_ _ | refine blk_drew ?_ | refine blk_alloc ?_ _)); exact BK104.out), (by (with_reducible repeat (first | refine blk_drewN ?_ _ | refine blk_drew ?_ | refine blk_alloc ?_ _)); exact BK105.out), (by (with_reducible repeat (first | refine blk_drewN ?_ _ | refine blk_drew ?_ | refine blk_alloc ?_ _)); exact BK111.out), GW111.out, GE111.out, NB104_111.out, NB111_104.out, NB105_111.out, NB111_105.out, (by repeat (first | (with_reducible first | exact HB.out | apply below_alloc | apply pw_below_drewN | apply below_drew1 | refine below_set ?_ GE104.out | refine below_set ?_ GE105.out | refine below_set ?_ GE111.out) | exact HB.out))⟩)
                      · skip
                        rintro gb111 w11 ⟨hS_, h0_, h1_, h2_, h3_, h4_, h5_, h6_, h7_, h8_, h9_⟩
                        have n0_ : Aside0 (w11.heap[gb104]? = some (.cells #[.int .i64 a0_0, .int .i64 a0_1, .int .i64 a0_2, .int .i64 a0_3] 44 (0, 0))) := ⟨h0_⟩
                        have n1_ : Aside0 (w11.heap[gb105]? = some (.cells #[.int .i64 0, .int .i64 0, .int .i64 0, .int .i64 0] 44 (0, 0))) := ⟨h1_⟩
                        have n2_ : Aside0 (w11.heap[gb111]? = some (.cells #[.int .i64 0, .int .i64 0] 23 (0, 0))) := ⟨h2_⟩
                        have n3_ : Aside0 (w.heap.size ≤ gb111) := ⟨h3_⟩
                        have n4_ : Aside0 (w.heap.size ≤ gb111) := ⟨h4_⟩
                        have n5_ : Aside0 (gb104 ≠ gb111) := ⟨h5_⟩
                        have n6_ : Aside0 (gb111 ≠ gb104) := ⟨h6_⟩
                        have n7_ : Aside0 (gb105 ≠ gb111) := ⟨h7_⟩
                        have n8_ : Aside0 (gb111 ≠ gb105) := ⟨h8_⟩
                        have n9_ : Aside0 (Below w.heap.size w w11) := ⟨h9_⟩
                        clear BK104
                        clear BK105
                        clear HB
                        clear h0_ h1_ h2_ h3_ h4_ h5_ h6_ h7_ h8_ h9_
                        have BK104 := n0_
                        have BK105 := n1_
                        have BK111 := n2_
                        have GW111 := n3_
                        have GE111 := n4_
                        have NB104_111 := n5_
                        have NB111_104 := n6_
                        have NB105_111 := n7_
                        have NB111_105 := n8_
                        have HB := n9_
                        clear n0_ n1_ n2_ n3_ n4_ n5_ n6_ n7_ n8_ n9_
                        have hHeld : w11.cell? ⟨gb104, 0, none⟩ = some (.int .i64 a0_0) ∧ w11.cell? ⟨gb104, 1, none⟩ = some (.int .i64 a0_1) ∧ w11.cell? ⟨gb104, 2, none⟩ = some (.int .i64 a0_2) ∧ w11.cell? ⟨gb104, 3, none⟩ = some (.int .i64 a0_3) := hS_
                        refine norm_ (a' := ?_) ?_ ?_
                        rotate_left
                        · simp only [putAll, Act.put, List.setIfInBounds_toArray, List.set_cons_zero, List.set_cons_succ]
                          rfl
                        refine two_ (i := 6) (j := 14) (Ni := some 11) (Nj := some 3) #[true, true, true, true, true, true, true, true, true, true, true, true, true, false, false, true, false, false] #[true, true, true, true, true, true, false, true, true, true, true, true, true, false, true, true, false, false] rfl rfl rfl rfl (two_of HT_.out (by kernel_rfl)) (by decide) (by decide) (fun K hK => ?_) (fun K hK => ?_)
                        · skip
                          refine goes_ Tryd.func10 (by kernel_rfl) rfl #[.int .i64 a0_0, .int .i64 a0_1] (by rfl) rfl rfl (by (try simp only [List.map_toArray, List.map_cons, List.map_nil]); first | done | rfl | (simp only [List.length_drop, List.length_take]; rfl)) ?_
                          with_reducible refine (laws_rgCut.calls a0_0 a0_1 t106 t107 _ A2.out).mono ?_
                          rintro e w12 ⟨rfl, hb⟩
                          refine ⟨_, rfl, ?_⟩
                          have n0_ := Aside0.mk (blk_below (g := gb104) (o := .cells #[.int .i64 a0_0, .int .i64 a0_1, .int .i64 a0_2, .int .i64 a0_3] 44 (0, 0)) (by (with_reducible repeat (first | refine blk_drewN ?_ _ | refine blk_drew ?_ | refine blk_alloc ?_ _)); exact BK104.out) hb)
                          have n1_ := Aside0.mk (blk_below (g := gb105) (o := .cells #[.int .i64 0, .int .i64 0, .int .i64 0, .int .i64 0] 44 (0, 0)) (by (with_reducible repeat (first | refine blk_drewN ?_ _ | refine blk_drew ?_ | refine blk_alloc ?_ _)); exact BK105.out) hb)
                          have n2_ := Aside0.mk (blk_below (g := gb111) (o := .cells #[.int .i64 0, .int .i64 0] 23 (0, 0)) (by (with_reducible repeat (first | refine blk_drewN ?_ _ | refine blk_drew ?_ | refine blk_alloc ?_ _)); exact BK111.out) hb)
                          have n3_ := Aside0.mk (below_step (by repeat (first | (with_reducible first | exact HB.out | apply below_alloc | apply pw_below_drewN | apply below_drew1 | refine below_set ?_ GE104.out | refine below_set ?_ GE105.out | refine below_set ?_ GE111.out) | exact HB.out)) hb)
                          clear BK104
                          clear BK105
                          clear BK111
                          clear HB
                          have BK104 := n0_
                          have BK105 := n1_
                          have BK111 := n2_
                          have HB := n3_
                          clear n0_ n1_ n2_ n3_
                          (try clear hb)
                          (try clear hb2)
                          (try clear hk)
                          (try clear hi)
                          refine hK.out _ _ ⟨(blk_cell BK104.out 0).trans rfl, (blk_cell BK104.out 1).trans rfl, (blk_cell BK104.out 2).trans rfl, (blk_cell BK104.out 3).trans rfl⟩ (fun hHeld => ?_)
                          clear hK K
                          refine norm_ (a' := ?_) ?_ ?_
                          rotate_left
                          · show Act.put _ (some 11) _ = _
                            simp only [Act.put, List.setIfInBounds_toArray, List.set_cons_zero, List.set_cons_succ, i64_w, i32_w]
                            rfl
                          exact norm_ (by first | (simp only [putAll, Act.put, List.setIfInBounds_toArray, List.set_cons_zero, List.set_cons_succ]; done) | (simp only [putAll, Act.put, List.setIfInBounds_toArray, List.set_cons_zero, List.set_cons_succ]; rfl)) (hJ6_15 (gb111) _ ⟨hHeld, (by (with_reducible repeat (first | refine blk_drewN ?_ _ | refine blk_drew ?_ | refine blk_alloc ?_ _)); exact BK104.out), (by (with_reducible repeat (first | refine blk_drewN ?_ _ | refine blk_drew ?_ | refine blk_alloc ?_ _)); exact BK105.out), (by (with_reducible repeat (first | refine blk_drewN ?_ _ | refine blk_drew ?_ | refine blk_alloc ?_ _)); exact BK111.out), GW111.out, GE111.out, NB104_111.out, NB111_104.out, NB105_111.out, NB111_105.out, (by repeat (first | (with_reducible first | exact HB.out | apply below_alloc | apply pw_below_drewN | apply below_drew1 | refine below_set ?_ GE104.out | refine below_set ?_ GE105.out | refine below_set ?_ GE111.out) | exact HB.out))⟩)
                        · skip
                          refine box_step ?hg (N := 3) ?hd (cs := #[.int .i64 0, .int .i64 0]) (t := 23) ?hr ?_; (case hd => rfl); (case hg => rfl); (case hr => first | (go_simp; done) | (go_simp; rfl))
                          intro gb110 hg w12 hbox hb
                          have n0_ := Aside0.mk (blk_below (g := gb104) (o := .cells #[.int .i64 a0_0, .int .i64 a0_1, .int .i64 a0_2, .int .i64 a0_3] 44 (0, 0)) (by (with_reducible repeat (first | refine blk_drewN ?_ _ | refine blk_drew ?_ | refine blk_alloc ?_ _)); exact BK104.out) hb)
                          have n1_ := Aside0.mk (blk_below (g := gb105) (o := .cells #[.int .i64 0, .int .i64 0, .int .i64 0, .int .i64 0] 44 (0, 0)) (by (with_reducible repeat (first | refine blk_drewN ?_ _ | refine blk_drew ?_ | refine blk_alloc ?_ _)); exact BK105.out) hb)
                          have n2_ := Aside0.mk (blk_below (g := gb111) (o := .cells #[.int .i64 0, .int .i64 0] 23 (0, 0)) (by (with_reducible repeat (first | refine blk_drewN ?_ _ | refine blk_drew ?_ | refine blk_alloc ?_ _)); exact BK111.out) hb)
                          have n3_ := Aside0.mk (below_step (by repeat (first | (with_reducible first | exact HB.out | apply below_alloc | apply pw_below_drewN | apply below_drew1 | refine below_set ?_ GE104.out | refine below_set ?_ GE105.out | refine below_set ?_ GE111.out) | exact HB.out)) hb)
                          have n4_ := Aside0.mk (hbox)
                          have n5_ := Aside0.mk ((by rw [hg]; exact (below_size (by repeat (first | (with_reducible first | exact HB.out | apply below_alloc | apply pw_below_drewN | apply below_drew1 | refine below_set ?_ GE104.out | refine below_set ?_ GE105.out | refine below_set ?_ GE111.out) | exact HB.out))) : w.heap.size ≤ gb110))
                          have n6_ := Aside0.mk ((by rw [hg]; exact (below_size (by repeat (first | (with_reducible first | exact HB.out | apply below_alloc | apply pw_below_drewN | apply below_drew1 | refine below_set ?_ GE104.out | refine below_set ?_ GE105.out | refine below_set ?_ GE111.out) | exact HB.out))) : w.heap.size ≤ gb110))
                          have n7_ := Aside0.mk ((by rw [hg]; exact Nat.ne_of_lt (blk_lt (g := gb104) (o := .cells #[.int .i64 a0_0, .int .i64 a0_1, .int .i64 a0_2, .int .i64 a0_3] 44 (0, 0)) (by (with_reducible repeat (first | refine blk_drewN ?_ _ | refine blk_drew ?_ | refine blk_alloc ?_ _)); exact BK104.out)) : gb104 ≠ gb110))
                          have n8_ := Aside0.mk ((by rw [hg]; exact Nat.ne_of_gt (blk_lt (g := gb104) (o := .cells #[.int .i64 a0_0, .int .i64 a0_1, .int .i64 a0_2, .int .i64 a0_3] 44 (0, 0)) (by (with_reducible repeat (first | refine blk_drewN ?_ _ | refine blk_drew ?_ | refine blk_alloc ?_ _)); exact BK104.out)) : gb110 ≠ gb104))
                          have n9_ := Aside0.mk ((by rw [hg]; exact Nat.ne_of_lt (blk_lt (g := gb105) (o := .cells #[.int .i64 0, .int .i64 0, .int .i64 0, .int .i64 0] 44 (0, 0)) (by (with_reducible repeat (first | refine blk_drewN ?_ _ | refine blk_drew ?_ | refine blk_alloc ?_ _)); exact BK105.out)) : gb105 ≠ gb110))
                          have n10_ := Aside0.mk ((by rw [hg]; exact Nat.ne_of_gt (blk_lt (g := gb105) (o := .cells #[.int .i64 0, .int .i64 0, .int .i64 0, .int .i64 0] 44 (0, 0)) (by (with_reducible repeat (first | refine blk_drewN ?_ _ | refine blk_drew ?_ | refine blk_alloc ?_ _)); exact BK105.out)) : gb110 ≠ gb105))
                          have n11_ := Aside0.mk ((by rw [hg]; exact Nat.ne_of_lt (blk_lt (g := gb111) (o := .cells #[.int .i64 0, .int .i64 0] 23 (0, 0)) (by (with_reducible repeat (first | refine blk_drewN ?_ _ | refine blk_drew ?_ | refine blk_alloc ?_ _)); exact BK111.out)) : gb111 ≠ gb110))
                          have n12_ := Aside0.mk ((by rw [hg]; exact Nat.ne_of_gt (blk_lt (g := gb111) (o := .cells #[.int .i64 0, .int .i64 0] 23 (0, 0)) (by (with_reducible repeat (first | refine blk_drewN ?_ _ | refine blk_drew ?_ | refine blk_alloc ?_ _)); exact BK111.out)) : gb110 ≠ gb111))
                          clear BK104
                          clear BK105
                          clear BK111
                          clear HB
                          have BK104 := n0_
                          have BK105 := n1_
                          have BK111 := n2_
                          have HB := n3_
                          have BK110 := n4_
                          have GW110 := n5_
                          have GE110 := n6_
                          have NB104_110 := n7_
                          have NB110_104 := n8_
                          have NB105_110 := n9_
                          have NB110_105 := n10_
                          have NB111_110 := n11_
                          have NB110_111 := n12_
                          clear n0_ n1_ n2_ n3_ n4_ n5_ n6_ n7_ n8_ n9_ n10_ n11_ n12_
                          clear hb hbox hg
                          refine hK.out _ _ ⟨(blk_cell BK104.out 0).trans rfl, (blk_cell BK104.out 1).trans rfl, (blk_cell BK104.out 2).trans rfl, (blk_cell BK104.out 3).trans rfl⟩ (fun hHeld => ?_)
                          clear hK K
                          refine norm_ (a' := ?_) ?_ ?_
                          rotate_left
                          · show Act.put _ (some 3) _ = _
                            simp only [Act.put, List.setIfInBounds_toArray, List.set_cons_zero, List.set_cons_succ, i64_w, i32_w]
                            rfl
                          exact norm_ (by first | (simp only [putAll, Act.put, List.setIfInBounds_toArray, List.set_cons_zero, List.set_cons_succ]; done) | (simp only [putAll, Act.put, List.setIfInBounds_toArray, List.set_cons_zero, List.set_cons_succ]; rfl)) (hJ14_15 (gb110, gb111) _ ⟨hHeld, (by (with_reducible repeat (first | refine blk_drewN ?_ _ | refine blk_drew ?_ | refine blk_alloc ?_ _)); exact BK104.out), (by (with_reducible repeat (first | refine blk_drewN ?_ _ | refine blk_drew ?_ | refine blk_alloc ?_ _)); exact BK105.out), (by (with_reducible repeat (first | refine blk_drewN ?_ _ | refine blk_drew ?_ | refine blk_alloc ?_ _)); exact BK110.out), (by (with_reducible repeat (first | refine blk_drewN ?_ _ | refine blk_drew ?_ | refine blk_alloc ?_ _)); exact BK111.out), GW110.out, GE110.out, NB104_110.out, NB110_104.out, NB105_110.out, NB110_105.out, NB111_110.out, NB110_111.out, GW111.out, GE111.out, NB104_111.out, NB111_104.out, NB105_111.out, NB111_105.out, (by repeat (first | (with_reducible first | exact HB.out | apply below_alloc | apply pw_below_drewN | apply below_drew1 | refine below_set ?_ GE104.out | refine below_set ?_ GE105.out | refine below_set ?_ GE111.out | refine below_set ?_ GE110.out) | exact HB.out))⟩)
                    · skip
                      rintro gb110 w11 ⟨hS_, h0_, h1_, h2_, h3_, h4_, h5_, h6_, h7_, h8_, h9_⟩
                      have n0_ : Aside0 (w11.heap[gb104]? = some (.cells #[.int .i64 a0_0, .int .i64 a0_1, .int .i64 a0_2, .int .i64 a0_3] 44 (0, 0))) := ⟨h0_⟩
                      have n1_ : Aside0 (w11.heap[gb105]? = some (.cells #[.int .i64 0, .int .i64 0, .int .i64 0, .int .i64 0] 44 (0, 0))) := ⟨h1_⟩
                      have n2_ : Aside0 (w11.heap[gb110]? = some (.cells #[.int .i64 0, .int .i64 0] 23 (0, 0))) := ⟨h2_⟩
                      have n3_ : Aside0 (w.heap.size ≤ gb110) := ⟨h3_⟩
                      have n4_ : Aside0 (w.heap.size ≤ gb110) := ⟨h4_⟩
                      have n5_ : Aside0 (gb104 ≠ gb110) := ⟨h5_⟩
                      have n6_ : Aside0 (gb110 ≠ gb104) := ⟨h6_⟩
                      have n7_ : Aside0 (gb105 ≠ gb110) := ⟨h7_⟩
                      have n8_ : Aside0 (gb110 ≠ gb105) := ⟨h8_⟩
                      have n9_ : Aside0 (Below w.heap.size w w11) := ⟨h9_⟩
                      clear BK104
                      clear BK105
                      clear HB
                      clear h0_ h1_ h2_ h3_ h4_ h5_ h6_ h7_ h8_ h9_
                      have BK104 := n0_
                      have BK105 := n1_
                      have BK110 := n2_
                      have GW110 := n3_
                      have GE110 := n4_
                      have NB104_110 := n5_
                      have NB110_104 := n6_
                      have NB105_110 := n7_
                      have NB110_105 := n8_
                      have HB := n9_
                      clear n0_ n1_ n2_ n3_ n4_ n5_ n6_ n7_ n8_ n9_
                      have hHeld : w11.cell? ⟨gb104, 0, none⟩ = some (.int .i64 a0_0) ∧ w11.cell? ⟨gb104, 1, none⟩ = some (.int .i64 a0_1) ∧ w11.cell? ⟨gb104, 2, none⟩ = some (.int .i64 a0_2) ∧ w11.cell? ⟨gb104, 3, none⟩ = some (.int .i64 a0_3) := hS_
                      refine norm_ (a' := ?_) ?_ ?_
                      rotate_left
                      · simp only [putAll, Act.put, List.setIfInBounds_toArray, List.set_cons_zero, List.set_cons_succ]
                        rfl
                      refine two_ (i := 6) (j := 15) (Ni := some 11) (Nj := some 4) #[true, true, true, true, true, true, true, true, true, true, true, true, true, false, true, false, false, false] #[true, true, true, true, true, true, false, true, true, true, true, true, true, false, true, true, false, false] rfl rfl rfl rfl (two_of HT_.out (by kernel_rfl)) (by decide) (by decide) (fun K hK => ?_) (fun K hK => ?_)
                      · skip
                        refine goes_ Tryd.func10 (by kernel_rfl) rfl #[.int .i64 a0_0, .int .i64 a0_1] (by rfl) rfl rfl (by (try simp only [List.map_toArray, List.map_cons, List.map_nil]); first | done | rfl | (simp only [List.length_drop, List.length_take]; rfl)) ?_
                        with_reducible refine (laws_rgCut.calls a0_0 a0_1 t106 t107 _ A2.out).mono ?_
                        rintro e w12 ⟨rfl, hb⟩
                        refine ⟨_, rfl, ?_⟩
                        have n0_ := Aside0.mk (blk_below (g := gb104) (o := .cells #[.int .i64 a0_0, .int .i64 a0_1, .int .i64 a0_2, .int .i64 a0_3] 44 (0, 0)) (by (with_reducible repeat (first | refine blk_drewN ?_ _ | refine blk_drew ?_ | refine blk_alloc ?_ _)); exact BK104.out) hb)
                        have n1_ := Aside0.mk (blk_below (g := gb105) (o := .cells #[.int .i64 0, .int .i64 0, .int .i64 0, .int .i64 0] 44 (0, 0)) (by (with_reducible repeat (first | refine blk_drewN ?_ _ | refine blk_drew ?_ | refine blk_alloc ?_ _)); exact BK105.out) hb)
                        have n2_ := Aside0.mk (blk_below (g := gb110) (o := .cells #[.int .i64 0, .int .i64 0] 23 (0, 0)) (by (with_reducible repeat (first | refine blk_drewN ?_ _ | refine blk_drew ?_ | refine blk_alloc ?_ _)); exact BK110.out) hb)
                        have n3_ := Aside0.mk (below_step (by repeat (first | (with_reducible first | exact HB.out | apply below_alloc | apply pw_below_drewN | apply below_drew1 | refine below_set ?_ GE104.out | refine below_set ?_ GE105.out | refine below_set ?_ GE110.out) | exact HB.out)) hb)
                        clear BK104
                        clear BK105
                        clear BK110
                        clear HB
                        have BK104 := n0_
                        have BK105 := n1_
                        have BK110 := n2_
                        have HB := n3_
                        clear n0_ n1_ n2_ n3_
                        (try clear hb)
                        (try clear hb2)
                        (try clear hk)
                        (try clear hi)
                        refine hK.out _ _ ⟨(blk_cell BK104.out 0).trans rfl, (blk_cell BK104.out 1).trans rfl, (blk_cell BK104.out 2).trans rfl, (blk_cell BK104.out 3).trans rfl⟩ (fun hHeld => ?_)
                        clear hK K
                        refine norm_ (a' := ?_) ?_ ?_
                        rotate_left
                        · show Act.put _ (some 11) _ = _
                          simp only [Act.put, List.setIfInBounds_toArray, List.set_cons_zero, List.set_cons_succ, i64_w, i32_w]
                          rfl
                        exact norm_ (by first | (simp only [putAll, Act.put, List.setIfInBounds_toArray, List.set_cons_zero, List.set_cons_succ]; done) | (simp only [putAll, Act.put, List.setIfInBounds_toArray, List.set_cons_zero, List.set_cons_succ]; rfl)) (hJ6_14 (gb110) _ ⟨hHeld, (by (with_reducible repeat (first | refine blk_drewN ?_ _ | refine blk_drew ?_ | refine blk_alloc ?_ _)); exact BK104.out), (by (with_reducible repeat (first | refine blk_drewN ?_ _ | refine blk_drew ?_ | refine blk_alloc ?_ _)); exact BK105.out), (by (with_reducible repeat (first | refine blk_drewN ?_ _ | refine blk_drew ?_ | refine blk_alloc ?_ _)); exact BK110.out), GW110.out, GE110.out, NB104_110.out, NB110_104.out, NB105_110.out, NB110_105.out, (by repeat (first | (with_reducible first | exact HB.out | apply below_alloc | apply pw_below_drewN | apply below_drew1 | refine below_set ?_ GE104.out | refine below_set ?_ GE105.out | refine below_set ?_ GE110.out) | exact HB.out))⟩)
                      · skip
                        refine box_step ?hg (N := 4) ?hd (cs := #[.int .i64 0, .int .i64 0]) (t := 23) ?hr ?_; (case hd => rfl); (case hg => rfl); (case hr => first | (go_simp; done) | (go_simp; rfl))
                        intro gb111 hg w12 hbox hb
                        have n0_ := Aside0.mk (blk_below (g := gb104) (o := .cells #[.int .i64 a0_0, .int .i64 a0_1, .int .i64 a0_2, .int .i64 a0_3] 44 (0, 0)) (by (with_reducible repeat (first | refine blk_drewN ?_ _ | refine blk_drew ?_ | refine blk_alloc ?_ _)); exact BK104.out) hb)
                        have n1_ := Aside0.mk (blk_below (g := gb105) (o := .cells #[.int .i64 0, .int .i64 0, .int .i64 0, .int .i64 0] 44 (0, 0)) (by (with_reducible repeat (first | refine blk_drewN ?_ _ | refine blk_drew ?_ | refine blk_alloc ?_ _)); exact BK105.out) hb)
                        have n2_ := Aside0.mk (blk_below (g := gb110) (o := .cells #[.int .i64 0, .int .i64 0] 23 (0, 0)) (by (with_reducible repeat (first | refine blk_drewN ?_ _ | refine blk_drew ?_ | refine blk_alloc ?_ _)); exact BK110.out) hb)
                        have n3_ := Aside0.mk (below_step (by repeat (first | (with_reducible first | exact HB.out | apply below_alloc | apply pw_below_drewN | apply below_drew1 | refine below_set ?_ GE104.out | refine below_set ?_ GE105.out | refine below_set ?_ GE110.out) | exact HB.out)) hb)
                        have n4_ := Aside0.mk (hbox)
                        have n5_ := Aside0.mk ((by rw [hg]; exact (below_size (by repeat (first | (with_reducible first | exact HB.out | apply below_alloc | apply pw_below_drewN | apply below_drew1 | refine below_set ?_ GE104.out | refine below_set ?_ GE105.out | refine below_set ?_ GE110.out) | exact HB.out))) : w.heap.size ≤ gb111))
                        have n6_ := Aside0.mk ((by rw [hg]; exact (below_size (by repeat (first | (with_reducible first | exact HB.out | apply below_alloc | apply pw_below_drewN | apply below_drew1 | refine below_set ?_ GE104.out | refine below_set ?_ GE105.out | refine below_set ?_ GE110.out) | exact HB.out))) : w.heap.size ≤ gb111))
                        have n7_ := Aside0.mk ((by rw [hg]; exact Nat.ne_of_lt (blk_lt (g := gb104) (o := .cells #[.int .i64 a0_0, .int .i64 a0_1, .int .i64 a0_2, .int .i64 a0_3] 44 (0, 0)) (by (with_reducible repeat (first | refine blk_drewN ?_ _ | refine blk_drew ?_ | refine blk_alloc ?_ _)); exact BK104.out)) : gb104 ≠ gb111))
                        have n8_ := Aside0.mk ((by rw [hg]; exact Nat.ne_of_gt (blk_lt (g := gb104) (o := .cells #[.int .i64 a0_0, .int .i64 a0_1, .int .i64 a0_2, .int .i64 a0_3] 44 (0, 0)) (by (with_reducible repeat (first | refine blk_drewN ?_ _ | refine blk_drew ?_ | refine blk_alloc ?_ _)); exact BK104.out)) : gb111 ≠ gb104))
                        have n9_ := Aside0.mk ((by rw [hg]; exact Nat.ne_of_lt (blk_lt (g := gb105) (o := .cells #[.int .i64 0, .int .i64 0, .int .i64 0, .int .i64 0] 44 (0, 0)) (by (with_reducible repeat (first | refine blk_drewN ?_ _ | refine blk_drew ?_ | refine blk_alloc ?_ _)); exact BK105.out)) : gb105 ≠ gb111))
                        have n10_ := Aside0.mk ((by rw [hg]; exact Nat.ne_of_gt (blk_lt (g := gb105) (o := .cells #[.int .i64 0, .int .i64 0, .int .i64 0, .int .i64 0] 44 (0, 0)) (by (with_reducible repeat (first | refine blk_drewN ?_ _ | refine blk_drew ?_ | refine blk_alloc ?_ _)); exact BK105.out)) : gb111 ≠ gb105))
                        have n11_ := Aside0.mk ((by rw [hg]; exact Nat.ne_of_lt (blk_lt (g := gb110) (o := .cells #[.int .i64 0, .int .i64 0] 23 (0, 0)) (by (with_reducible repeat (first | refine blk_drewN ?_ _ | refine blk_drew ?_ | refine blk_alloc ?_ _)); exact BK110.out)) : gb110 ≠ gb111))
                        have n12_ := Aside0.mk ((by rw [hg]; exact Nat.ne_of_gt (blk_lt (g := gb110) (o := .cells #[.int .i64 0, .int .i64 0] 23 (0, 0)) (by (with_reducible repeat (first | refine blk_drewN ?_ _ | refine blk_drew ?_ | refine blk_alloc ?_ _)); exact BK110.out)) : gb111 ≠ gb110))
                        clear BK104
                        clear BK105
                        clear BK110
                        clear HB
                        have BK104 := n0_
                        have BK105 := n1_
                        have BK110 := n2_
                        have HB := n3_
                        have BK111 := n4_
                        have GW111 := n5_
                        have GE111 := n6_
                        have NB104_111 := n7_
                        have NB111_104 := n8_
                        have NB105_111 := n9_
                        have NB111_105 := n10_
                        have NB110_111 := n11_
                        have NB111_110 := n12_
                        clear n0_ n1_ n2_ n3_ n4_ n5_ n6_ n7_ n8_ n9_ n10_ n11_ n12_
                        clear hb hbox hg
                        refine hK.out _ _ ⟨(blk_cell BK104.out 0).trans rfl, (blk_cell BK104.out 1).trans rfl, (blk_cell BK104.out 2).trans rfl, (blk_cell BK104.out 3).trans rfl⟩ (fun hHeld => ?_)
                        clear hK K
                        refine norm_ (a' := ?_) ?_ ?_
                        rotate_left
                        · show Act.put _ (some 4) _ = _
                          simp only [Act.put, List.setIfInBounds_toArray, List.set_cons_zero, List.set_cons_succ, i64_w, i32_w]
                          rfl
                        exact norm_ (by first | (simp only [putAll, Act.put, List.setIfInBounds_toArray, List.set_cons_zero, List.set_cons_succ]; done) | (simp only [putAll, Act.put, List.setIfInBounds_toArray, List.set_cons_zero, List.set_cons_succ]; rfl)) (hJ14_15 (gb110, gb111) _ ⟨hHeld, (by (with_reducible repeat (first | refine blk_drewN ?_ _ | refine blk_drew ?_ | refine blk_alloc ?_ _)); exact BK104.out), (by (with_reducible repeat (first | refine blk_drewN ?_ _ | refine blk_drew ?_ | refine blk_alloc ?_ _)); exact BK105.out), (by (with_reducible repeat (first | refine blk_drewN ?_ _ | refine blk_drew ?_ | refine blk_alloc ?_ _)); exact BK110.out), (by (with_reducible repeat (first | refine blk_drewN ?_ _ | refine blk_drew ?_ | refine blk_alloc ?_ _)); exact BK111.out), GW110.out, GE110.out, NB104_110.out, NB110_104.out, NB105_110.out, NB110_105.out, NB111_110.out, NB110_111.out, GW111.out, GE111.out, NB104_111.out, NB111_104.out, NB105_111.out, NB111_105.out, (by repeat (first | (with_reducible first | exact HB.out | apply below_alloc | apply pw_below_drewN | apply below_drew1 | refine below_set ?_ GE104.out | refine below_set ?_ GE105.out | refine below_set ?_ GE110.out | refine below_set ?_ GE111.out) | exact HB.out))⟩)
                  · skip
                    rintro _ w11 ⟨hS_, h0_, h1_, h2_⟩
                    have n0_ : Aside0 (w11.heap[gb104]? = some (.cells #[.int .i64 a0_0, .int .i64 a0_1, .int .i64 a0_2, .int .i64 a0_3] 44 (0, 0))) := ⟨h0_⟩
                    have n1_ : Aside0 (w11.heap[gb105]? = some (.cells #[.int .i64 0, .int .i64 0, .int .i64 0, .int .i64 0] 44 (0, 0))) := ⟨h1_⟩
                    have n2_ : Aside0 (Below w.heap.size w w11) := ⟨h2_⟩
                    clear BK104
                    clear BK105
                    clear HB
                    clear h0_ h1_ h2_
                    have BK104 := n0_
                    have BK105 := n1_
                    have HB := n2_
                    clear n0_ n1_ n2_
                    have hHeld : w11.cell? ⟨gb104, 0, none⟩ = some (.int .i64 a0_0) ∧ w11.cell? ⟨gb104, 1, none⟩ = some (.int .i64 a0_1) ∧ w11.cell? ⟨gb104, 2, none⟩ = some (.int .i64 a0_2) ∧ w11.cell? ⟨gb104, 3, none⟩ = some (.int .i64 a0_3) := hS_
                    refine norm_ (a' := ?_) ?_ ?_
                    rotate_left
                    · simp only [putAll, Act.put, List.setIfInBounds_toArray, List.set_cons_zero, List.set_cons_succ]
                      rfl
                    refine three_ (i := 13) (j := 14) (k := 15) (Ni := some 18) (Nj := some 3) (Nk := some 4) #[true, true, true, true, true, true, true, true, true, true, true, true, true, true, false, false, false, false] #[true, true, true, true, true, true, true, true, true, true, true, true, true, false, true, false, false, false] #[true, true, true, true, true, true, true, true, true, true, true, true, true, false, false, true, false, false] rfl rfl rfl rfl rfl rfl (three_of HT_.out (by kernel_rfl)) (by decide) (by decide) (by decide) (fun K hK => ?_) (fun K hK => ?_) (fun K hK => ?_)
                    · skip
                      refine goes_ Tryd.func10 (by kernel_rfl) rfl #[.int .i64 a0_2, .int .i64 a0_3] (by rfl) rfl rfl (by (try simp only [List.map_toArray, List.map_cons, List.map_nil]); first | done | rfl | (simp only [List.length_drop, List.length_take]; rfl)) ?_
                      with_reducible refine (laws_rgCut.calls a0_2 a0_3 t108 t109 _ A3.out).mono ?_
                      rintro e w12 ⟨rfl, hb⟩
                      refine ⟨_, rfl, ?_⟩
                      have n0_ := Aside0.mk (blk_below (g := gb104) (o := .cells #[.int .i64 a0_0, .int .i64 a0_1, .int .i64 a0_2, .int .i64 a0_3] 44 (0, 0)) (by (with_reducible repeat (first | refine blk_drewN ?_ _ | refine blk_drew ?_ | refine blk_alloc ?_ _)); exact BK104.out) hb)
                      have n1_ := Aside0.mk (blk_below (g := gb105) (o := .cells #[.int .i64 0, .int .i64 0, .int .i64 0, .int .i64 0] 44 (0, 0)) (by (with_reducible repeat (first | refine blk_drewN ?_ _ | refine blk_drew ?_ | refine blk_alloc ?_ _)); exact BK105.out) hb)
                      have n2_ := Aside0.mk (below_step (by repeat (first | (with_reducible first | exact HB.out | apply below_alloc | apply pw_below_drewN | apply below_drew1 | refine below_set ?_ GE104.out | refine below_set ?_ GE105.out) | exact HB.out)) hb)
                      clear BK104
                      clear BK105
                      clear HB
                      have BK104 := n0_
                      have BK105 := n1_
                      have HB := n2_
                      clear n0_ n1_ n2_
                      (try clear hb)
                      (try clear hb2)
                      (try clear hk)
                      (try clear hi)
                      refine hK.out _ _ ⟨(blk_cell BK104.out 0).trans rfl, (blk_cell BK104.out 1).trans rfl, (blk_cell BK104.out 2).trans rfl, (blk_cell BK104.out 3).trans rfl⟩ (fun hHeld => ?_)
                      clear hK K
                      refine norm_ (a' := ?_) ?_ ?_
                      rotate_left
                      · show Act.put _ (some 18) _ = _
                        simp only [Act.put, List.setIfInBounds_toArray, List.set_cons_zero, List.set_cons_succ, i64_w, i32_w]
                        rfl
                      exact norm_ (by first | (simp only [putAll, Act.put, List.setIfInBounds_toArray, List.set_cons_zero, List.set_cons_succ]; done) | (simp only [putAll, Act.put, List.setIfInBounds_toArray, List.set_cons_zero, List.set_cons_succ]; rfl)) (hJ6_13 () _ ⟨hHeld, (by (with_reducible repeat (first | refine blk_drewN ?_ _ | refine blk_drew ?_ | refine blk_alloc ?_ _)); exact BK104.out), (by (with_reducible repeat (first | refine blk_drewN ?_ _ | refine blk_drew ?_ | refine blk_alloc ?_ _)); exact BK105.out), (by repeat (first | (with_reducible first | exact HB.out | apply below_alloc | apply pw_below_drewN | apply below_drew1 | refine below_set ?_ GE104.out | refine below_set ?_ GE105.out) | exact HB.out))⟩)
                    · skip
                      refine box_step ?hg (N := 3) ?hd (cs := #[.int .i64 0, .int .i64 0]) (t := 23) ?hr ?_; (case hd => rfl); (case hg => rfl); (case hr => first | (go_simp; done) | (go_simp; rfl))
                      intro gb110 hg w12 hbox hb
                      have n0_ := Aside0.mk (blk_below (g := gb104) (o := .cells #[.int .i64 a0_0, .int .i64 a0_1, .int .i64 a0_2, .int .i64 a0_3] 44 (0, 0)) (by (with_reducible repeat (first | refine blk_drewN ?_ _ | refine blk_drew ?_ | refine blk_alloc ?_ _)); exact BK104.out) hb)
                      have n1_ := Aside0.mk (blk_below (g := gb105) (o := .cells #[.int .i64 0, .int .i64 0, .int .i64 0, .int .i64 0] 44 (0, 0)) (by (with_reducible repeat (first | refine blk_drewN ?_ _ | refine blk_drew ?_ | refine blk_alloc ?_ _)); exact BK105.out) hb)
                      have n2_ := Aside0.mk (below_step (by repeat (first | (with_reducible first | exact HB.out | apply below_alloc | apply pw_below_drewN | apply below_drew1 | refine below_set ?_ GE104.out | refine below_set ?_ GE105.out) | exact HB.out)) hb)
                      have n3_ := Aside0.mk (hbox)
                      have n4_ := Aside0.mk ((by rw [hg]; exact (below_size (by repeat (first | (with_reducible first | exact HB.out | apply below_alloc | apply pw_below_drewN | apply below_drew1 | refine below_set ?_ GE104.out | refine below_set ?_ GE105.out) | exact HB.out))) : w.heap.size ≤ gb110))
                      have n5_ := Aside0.mk ((by rw [hg]; exact (below_size (by repeat (first | (with_reducible first | exact HB.out | apply below_alloc | apply pw_below_drewN | apply below_drew1 | refine below_set ?_ GE104.out | refine below_set ?_ GE105.out) | exact HB.out))) : w.heap.size ≤ gb110))
                      have n6_ := Aside0.mk ((by rw [hg]; exact Nat.ne_of_lt (blk_lt (g := gb104) (o := .cells #[.int .i64 a0_0, .int .i64 a0_1, .int .i64 a0_2, .int .i64 a0_3] 44 (0, 0)) (by (with_reducible repeat (first | refine blk_drewN ?_ _ | refine blk_drew ?_ | refine blk_alloc ?_ _)); exact BK104.out)) : gb104 ≠ gb110))
                      have n7_ := Aside0.mk ((by rw [hg]; exact Nat.ne_of_gt (blk_lt (g := gb104) (o := .cells #[.int .i64 a0_0, .int .i64 a0_1, .int .i64 a0_2, .int .i64 a0_3] 44 (0, 0)) (by (with_reducible repeat (first | refine blk_drewN ?_ _ | refine blk_drew ?_ | refine blk_alloc ?_ _)); exact BK104.out)) : gb110 ≠ gb104))
                      have n8_ := Aside0.mk ((by rw [hg]; exact Nat.ne_of_lt (blk_lt (g := gb105) (o := .cells #[.int .i64 0, .int .i64 0, .int .i64 0, .int .i64 0] 44 (0, 0)) (by (with_reducible repeat (first | refine blk_drewN ?_ _ | refine blk_drew ?_ | refine blk_alloc ?_ _)); exact BK105.out)) : gb105 ≠ gb110))
                      have n9_ := Aside0.mk ((by rw [hg]; exact Nat.ne_of_gt (blk_lt (g := gb105) (o := .cells #[.int .i64 0, .int .i64 0, .int .i64 0, .int .i64 0] 44 (0, 0)) (by (with_reducible repeat (first | refine blk_drewN ?_ _ | refine blk_drew ?_ | refine blk_alloc ?_ _)); exact BK105.out)) : gb110 ≠ gb105))
                      clear BK104
                      clear BK105
                      clear HB
                      have BK104 := n0_
                      have BK105 := n1_
                      have HB := n2_
                      have BK110 := n3_
                      have GW110 := n4_
                      have GE110 := n5_
                      have NB104_110 := n6_
                      have NB110_104 := n7_
                      have NB105_110 := n8_
                      have NB110_105 := n9_
                      clear n0_ n1_ n2_ n3_ n4_ n5_ n6_ n7_ n8_ n9_
                      clear hb hbox hg
                      refine hK.out _ _ ⟨(blk_cell BK104.out 0).trans rfl, (blk_cell BK104.out 1).trans rfl, (blk_cell BK104.out 2).trans rfl, (blk_cell BK104.out 3).trans rfl⟩ (fun hHeld => ?_)
                      clear hK K
                      refine norm_ (a' := ?_) ?_ ?_
                      rotate_left
                      · show Act.put _ (some 3) _ = _
                        simp only [Act.put, List.setIfInBounds_toArray, List.set_cons_zero, List.set_cons_succ, i64_w, i32_w]
                        rfl
                      exact norm_ (by first | (simp only [putAll, Act.put, List.setIfInBounds_toArray, List.set_cons_zero, List.set_cons_succ]; done) | (simp only [putAll, Act.put, List.setIfInBounds_toArray, List.set_cons_zero, List.set_cons_succ]; rfl)) (hJ6_14 (gb110) _ ⟨hHeld, (by (with_reducible repeat (first | refine blk_drewN ?_ _ | refine blk_drew ?_ | refine blk_alloc ?_ _)); exact BK104.out), (by (with_reducible repeat (first | refine blk_drewN ?_ _ | refine blk_drew ?_ | refine blk_alloc ?_ _)); exact BK105.out), (by (with_reducible repeat (first | refine blk_drewN ?_ _ | refine blk_drew ?_ | refine blk_alloc ?_ _)); exact BK110.out), GW110.out, GE110.out, NB104_110.out, NB110_104.out, NB105_110.out, NB110_105.out, (by repeat (first | (with_reducible first | exact HB.out | apply below_alloc | apply pw_below_drewN | apply below_drew1 | refine below_set ?_ GE104.out | refine below_set ?_ GE105.out | refine below_set ?_ GE110.out) | exact HB.out))⟩)
                    · skip
                      refine box_step ?hg (N := 4) ?hd (cs := #[.int .i64 0, .int .i64 0]) (t := 23) ?hr ?_; (case hd => rfl); (case hg => rfl); (case hr => first | (go_simp; done) | (go_simp; rfl))
                      intro gb111 hg w12 hbox hb
                      have n0_ := Aside0.mk (blk_below (g := gb104) (o := .cells #[.int .i64 a0_0, .int .i64 a0_1, .int .i64 a0_2, .int .i64 a0_3] 44 (0, 0)) (by (with_reducible repeat (first | refine blk_drewN ?_ _ | refine blk_drew ?_ | refine blk_alloc ?_ _)); exact BK104.out) hb)
                      have n1_ := Aside0.mk (blk_below (g := gb105) (o := .cells #[.int .i64 0, .int .i64 0, .int .i64 0, .int .i64 0] 44 (0, 0)) (by (with_reducible repeat (first | refine blk_drewN ?_ _ | refine blk_drew ?_ | refine blk_alloc ?_ _)); exact BK105.out) hb)
                      have n2_ := Aside0.mk (below_step (by repeat (first | (with_reducible first | exact HB.out | apply below_alloc | apply pw_below_drewN | apply below_drew1 | refine below_set ?_ GE104.out | refine below_set ?_ GE105.out) | exact HB.out)) hb)
                      have n3_ := Aside0.mk (hbox)
                      have n4_ := Aside0.mk ((by rw [hg]; exact (below_size (by repeat (first | (with_reducible first | exact HB.out | apply below_alloc | apply pw_below_drewN | apply below_drew1 | refine below_set ?_ GE104.out | refine below_set ?_ GE105.out) | exact HB.out))) : w.heap.size ≤ gb111))
                      have n5_ := Aside0.mk ((by rw [hg]; exact (below_size (by repeat (first | (with_reducible first | exact HB.out | apply below_alloc | apply pw_below_drewN | apply below_drew1 | refine below_set ?_ GE104.out | refine below_set ?_ GE105.out) | exact HB.out))) : w.heap.size ≤ gb111))
                      have n6_ := Aside0.mk ((by rw [hg]; exact Nat.ne_of_lt (blk_lt (g := gb104) (o := .cells #[.int .i64 a0_0, .int .i64 a0_1, .int .i64 a0_2, .int .i64 a0_3] 44 (0, 0)) (by (with_reducible repeat (first | refine blk_drewN ?_ _ | refine blk_drew ?_ | refine blk_alloc ?_ _)); exact BK104.out)) : gb104 ≠ gb111))
                      have n7_ := Aside0.mk ((by rw [hg]; exact Nat.ne_of_gt (blk_lt (g := gb104) (o := .cells #[.int .i64 a0_0, .int .i64 a0_1, .int .i64 a0_2, .int .i64 a0_3] 44 (0, 0)) (by (with_reducible repeat (first | refine blk_drewN ?_ _ | refine blk_drew ?_ | refine blk_alloc ?_ _)); exact BK104.out)) : gb111 ≠ gb104))
                      have n8_ := Aside0.mk ((by rw [hg]; exact Nat.ne_of_lt (blk_lt (g := gb105) (o := .cells #[.int .i64 0, .int .i64 0, .int .i64 0, .int .i64 0] 44 (0, 0)) (by (with_reducible repeat (first | refine blk_drewN ?_ _ | refine blk_drew ?_ | refine blk_alloc ?_ _)); exact BK105.out)) : gb105 ≠ gb111))
                      have n9_ := Aside0.mk ((by rw [hg]; exact Nat.ne_of_gt (blk_lt (g := gb105) (o := .cells #[.int .i64 0, .int .i64 0, .int .i64 0, .int .i64 0] 44 (0, 0)) (by (with_reducible repeat (first | refine blk_drewN ?_ _ | refine blk_drew ?_ | refine blk_alloc ?_ _)); exact BK105.out)) : gb111 ≠ gb105))
                      clear BK104
                      clear BK105
                      clear HB
                      have BK104 := n0_
                      have BK105 := n1_
                      have HB := n2_
                      have BK111 := n3_
                      have GW111 := n4_
                      have GE111 := n5_
                      have NB104_111 := n6_
                      have NB111_104 := n7_
                      have NB105_111 := n8_
                      have NB111_105 := n9_
                      clear n0_ n1_ n2_ n3_ n4_ n5_ n6_ n7_ n8_ n9_
                      clear hb hbox hg
                      refine hK.out _ _ ⟨(blk_cell BK104.out 0).trans rfl, (blk_cell BK104.out 1).trans rfl, (blk_cell BK104.out 2).trans rfl, (blk_cell BK104.out 3).trans rfl⟩ (fun hHeld => ?_)
                      clear hK K
                      refine norm_ (a' := ?_) ?_ ?_
                      rotate_left
                      · show Act.put _ (some 4) _ = _
                        simp only [Act.put, List.setIfInBounds_toArray, List.set_cons_zero, List.set_cons_succ, i64_w, i32_w]
                        rfl
                      exact norm_ (by first | (simp only [putAll, Act.put, List.setIfInBounds_toArray, List.set_cons_zero, List.set_cons_succ]; done) | (simp only [putAll, Act.put, List.setIfInBounds_toArray, List.set_cons_zero, List.set_cons_succ]; rfl)) (hJ6_15 (gb111) _ ⟨hHeld, (by (with_reducible repeat (first | refine blk_drewN ?_ _ | refine blk_drew ?_ | refine blk_alloc ?_ _)); exact BK104.out), (by (with_reducible repeat (first | refine blk_drewN ?_ _ | refine blk_drew ?_ | refine blk_alloc ?_ _)); exact BK105.out), (by (with_reducible repeat (first | refine blk_drewN ?_ _ | refine blk_drew ?_ | refine blk_alloc ?_ _)); exact BK111.out), GW111.out, GE111.out, NB104_111.out, NB111_104.out, NB105_111.out, NB111_105.out, (by repeat (first | (with_reducible first | exact HB.out | apply below_alloc | apply pw_below_drewN | apply below_drew1 | refine below_set ?_ GE104.out | refine below_set ?_ GE105.out | refine below_set ?_ GE111.out) | exact HB.out))⟩)
                · skip
                  rintro ⟨gb110, gb111⟩ w12 ⟨hS_, h0_, h1_, h2_, h3_, h4_, h5_, h6_, h7_, h8_, h9_, h10_, h11_, h12_, h13_, h14_, h15_, h16_, h17_, h18_⟩
                  have n0_ : Aside0 (w12.heap[gb104]? = some (.cells #[.int .i64 a0_0, .int .i64 a0_1, .int .i64 a0_2, .int .i64 a0_3] 44 (0, 0))) := ⟨h0_⟩
                  have n1_ : Aside0 (w12.heap[gb105]? = some (.cells #[.int .i64 0, .int .i64 0, .int .i64 0, .int .i64 0] 44 (0, 0))) := ⟨h1_⟩
                  have n2_ : Aside0 (w12.heap[gb110]? = some (.cells #[.int .i64 0, .int .i64 0] 23 (0, 0))) := ⟨h2_⟩
                  have n3_ : Aside0 (w12.heap[gb111]? = some (.cells #[.int .i64 0, .int .i64 0] 23 (0, 0))) := ⟨h3_⟩
                  have n4_ : Aside0 (w.heap.size ≤ gb110) := ⟨h4_⟩
                  have n5_ : Aside0 (w.heap.size ≤ gb110) := ⟨h5_⟩
                  have n6_ : Aside0 (gb104 ≠ gb110) := ⟨h6_⟩
                  have n7_ : Aside0 (gb110 ≠ gb104) := ⟨h7_⟩
                  have n8_ : Aside0 (gb105 ≠ gb110) := ⟨h8_⟩
                  have n9_ : Aside0 (gb110 ≠ gb105) := ⟨h9_⟩
                  have n10_ : Aside0 (gb111 ≠ gb110) := ⟨h10_⟩
                  have n11_ : Aside0 (gb110 ≠ gb111) := ⟨h11_⟩
                  have n12_ : Aside0 (w.heap.size ≤ gb111) := ⟨h12_⟩
                  have n13_ : Aside0 (w.heap.size ≤ gb111) := ⟨h13_⟩
                  have n14_ : Aside0 (gb104 ≠ gb111) := ⟨h14_⟩
                  have n15_ : Aside0 (gb111 ≠ gb104) := ⟨h15_⟩
                  have n16_ : Aside0 (gb105 ≠ gb111) := ⟨h16_⟩
                  have n17_ : Aside0 (gb111 ≠ gb105) := ⟨h17_⟩
                  have n18_ : Aside0 (Below w.heap.size w w12) := ⟨h18_⟩
                  clear BK104
                  clear BK105
                  clear HB
                  clear h0_ h1_ h2_ h3_ h4_ h5_ h6_ h7_ h8_ h9_ h10_ h11_ h12_ h13_ h14_ h15_ h16_ h17_ h18_
                  have BK104 := n0_
                  have BK105 := n1_
                  have BK110 := n2_
                  have BK111 := n3_
                  have GW110 := n4_
                  have GE110 := n5_
                  have NB104_110 := n6_
                  have NB110_104 := n7_
                  have NB105_110 := n8_
                  have NB110_105 := n9_
                  have NB111_110 := n10_
                  have NB110_111 := n11_
                  have GW111 := n12_
                  have GE111 := n13_
                  have NB104_111 := n14_
                  have NB111_104 := n15_
                  have NB105_111 := n16_
                  have NB111_105 := n17_
                  have HB := n18_
                  clear n0_ n1_ n2_ n3_ n4_ n5_ n6_ n7_ n8_ n9_ n10_ n11_ n12_ n13_ n14_ n15_ n16_ n17_ n18_
                  have hHeld : w12.cell? ⟨gb104, 0, none⟩ = some (.int .i64 a0_0) ∧ w12.cell? ⟨gb104, 1, none⟩ = some (.int .i64 a0_1) ∧ w12.cell? ⟨gb104, 2, none⟩ = some (.int .i64 a0_2) ∧ w12.cell? ⟨gb104, 3, none⟩ = some (.int .i64 a0_3) := hS_
                  refine norm_ (a' := ?_) ?_ ?_
                  rotate_left
                  · simp only [putAll, Act.put, List.setIfInBounds_toArray, List.set_cons_zero, List.set_cons_succ]
                    rfl
                  refine one_ (i := 6) (N := some 11) #[true, true, true, true, true, true, true, true, true, true, true, true, true, false, true, true, false, false] rfl rfl (one_of HT_.out (by kernel_rfl)) (by decide) (fun K hK => ?_)
                  refine goes_ Tryd.func10 (by kernel_rfl) rfl #[.int .i64 a0_0, .int .i64 a0_1] (by rfl) rfl rfl (by (try simp only [List.map_toArray, List.map_cons, List.map_nil]); first | done | rfl | (simp only [List.length_drop, List.length_take]; rfl)) ?_
                  with_reducible refine (laws_rgCut.calls a0_0 a0_1 t106 t107 _ A2.out).mono ?_
                  rintro e w13 ⟨rfl, hb⟩
                  refine ⟨_, rfl, ?_⟩
                  have n0_ := Aside0.mk (blk_below (g := gb104) (o := .cells #[.int .i64 a0_0, .int .i64 a0_1, .int .i64 a0_2, .int .i64 a0_3] 44 (0, 0)) (by (with_reducible repeat (first | refine blk_drewN ?_ _ | refine blk_drew ?_ | refine blk_alloc ?_ _)); exact BK104.out) hb)
                  have n1_ := Aside0.mk (blk_below (g := gb105) (o := .cells #[.int .i64 0, .int .i64 0, .int .i64 0, .int .i64 0] 44 (0, 0)) (by (with_reducible repeat (first | refine blk_drewN ?_ _ | refine blk_drew ?_ | refine blk_alloc ?_ _)); exact BK105.out) hb)
                  have n2_ := Aside0.mk (blk_below (g := gb110) (o := .cells #[.int .i64 0, .int .i64 0] 23 (0, 0)) (by (with_reducible repeat (first | refine blk_drewN ?_ _ | refine blk_drew ?_ | refine blk_alloc ?_ _)); exact BK110.out) hb)
                  have n3_ := Aside0.mk (blk_below (g := gb111) (o := .cells #[.int .i64 0, .int .i64 0] 23 (0, 0)) (by (with_reducible repeat (first | refine blk_drewN ?_ _ | refine blk_drew ?_ | refine blk_alloc ?_ _)); exact BK111.out) hb)
                  have n4_ := Aside0.mk (below_step (by repeat (first | (with_reducible first | exact HB.out | apply below_alloc | apply pw_below_drewN | apply below_drew1 | refine below_set ?_ GE104.out | refine below_set ?_ GE105.out | refine below_set ?_ GE110.out | refine below_set ?_ GE111.out) | exact HB.out)) hb)
                  clear BK104
                  clear BK105
                  clear BK110
                  clear BK111
                  clear HB
                  have BK104 := n0_
                  have BK105 := n1_
                  have BK110 := n2_
                  have BK111 := n3_
                  have HB := n4_
                  clear n0_ n1_ n2_ n3_ n4_
                  (try clear hb)
                  (try clear hb2)
                  (try clear hk)
                  (try clear hi)
                  refine hK.out _ _ ⟨(blk_cell BK104.out 0).trans rfl, (blk_cell BK104.out 1).trans rfl, (blk_cell BK104.out 2).trans rfl, (blk_cell BK104.out 3).trans rfl⟩ (fun hHeld => ?_)
                  clear hK K
                  refine norm_ (a' := ?_) ?_ ?_
                  rotate_left
                  · show Act.put _ (some 11) _ = _
                    simp only [Act.put, List.setIfInBounds_toArray, List.set_cons_zero, List.set_cons_succ, i64_w, i32_w]
                    rfl
                  exact norm_ (by first | (simp only [putAll, Act.put, List.setIfInBounds_toArray, List.set_cons_zero, List.set_cons_succ]; done) | (simp only [putAll, Act.put, List.setIfInBounds_toArray, List.set_cons_zero, List.set_cons_succ]; rfl)) (hJ6_14_15 (gb110, gb111) _ ⟨hHeld, (by (with_reducible repeat (first | refine blk_drewN ?_ _ | refine blk_drew ?_ | refine blk_alloc ?_ _)); exact BK104.out), (by (with_reducible repeat (first | refine blk_drewN ?_ _ | refine blk_drew ?_ | refine blk_alloc ?_ _)); exact BK105.out), (by (with_reducible repeat (first | refine blk_drewN ?_ _ | refine blk_drew ?_ | refine blk_alloc ?_ _)); exact BK110.out), (by (with_reducible repeat (first | refine blk_drewN ?_ _ | refine blk_drew ?_ | refine blk_alloc ?_ _)); exact BK111.out), GW110.out, GE110.out, NB104_110.out, NB110_104.out, NB105_110.out, NB110_105.out, NB111_110.out, NB110_111.out, GW111.out, GE111.out, NB104_111.out, NB111_104.out, NB105_111.out, NB111_105.out, (by repeat (first | (with_reducible first | exact HB.out | apply below_alloc | apply pw_below_drewN | apply below_drew1 | refine below_set ?_ GE104.out | refine below_set ?_ GE105.out | refine below_set ?_ GE110.out | refine below_set ?_ GE111.out) | exact HB.out))⟩)
              · skip
                rintro gb111 w12 ⟨hS_, h0_, h1_, h2_, h3_, h4_, h5_, h6_, h7_, h8_, h9_⟩
                have n0_ : Aside0 (w12.heap[gb104]? = some (.cells #[.int .i64 a0_0, .int .i64 a0_1, .int .i64 a0_2, .int .i64 a0_3] 44 (0, 0))) := ⟨h0_⟩
                have n1_ : Aside0 (w12.heap[gb105]? = some (.cells #[.int .i64 0, .int .i64 0, .int .i64 0, .int .i64 0] 44 (0, 0))) := ⟨h1_⟩
                have n2_ : Aside0 (w12.heap[gb111]? = some (.cells #[.int .i64 0, .int .i64 0] 23 (0, 0))) := ⟨h2_⟩
                have n3_ : Aside0 (w.heap.size ≤ gb111) := ⟨h3_⟩
                have n4_ : Aside0 (w.heap.size ≤ gb111) := ⟨h4_⟩
                have n5_ : Aside0 (gb104 ≠ gb111) := ⟨h5_⟩
                have n6_ : Aside0 (gb111 ≠ gb104) := ⟨h6_⟩
                have n7_ : Aside0 (gb105 ≠ gb111) := ⟨h7_⟩
                have n8_ : Aside0 (gb111 ≠ gb105) := ⟨h8_⟩
                have n9_ : Aside0 (Below w.heap.size w w12) := ⟨h9_⟩
                clear BK104
                clear BK105
                clear HB
                clear h0_ h1_ h2_ h3_ h4_ h5_ h6_ h7_ h8_ h9_
                have BK104 := n0_
                have BK105 := n1_
                have BK111 := n2_
                have GW111 := n3_
                have GE111 := n4_
                have NB104_111 := n5_
                have NB111_104 := n6_
                have NB105_111 := n7_
                have NB111_105 := n8_
                have HB := n9_
                clear n0_ n1_ n2_ n3_ n4_ n5_ n6_ n7_ n8_ n9_
                have hHeld : w12.cell? ⟨gb104, 0, none⟩ = some (.int .i64 a0_0) ∧ w12.cell? ⟨gb104, 1, none⟩ = some (.int .i64 a0_1) ∧ w12.cell? ⟨gb104, 2, none⟩ = some (.int .i64 a0_2) ∧ w12.cell? ⟨gb104, 3, none⟩ = some (.int .i64 a0_3) := hS_
                refine norm_ (a' := ?_) ?_ ?_
                rotate_left
                · simp only [putAll, Act.put, List.setIfInBounds_toArray, List.set_cons_zero, List.set_cons_succ]
                  rfl
                refine two_ (i := 13) (j := 14) (Ni := some 18) (Nj := some 3) #[true, true, true, true, true, true, true, true, true, true, true, true, true, true, false, true, false, false] #[true, true, true, true, true, true, true, true, true, true, true, true, true, false, true, true, false, false] rfl rfl rfl rfl (two_of HT_.out (by kernel_rfl)) (by decide) (by decide) (fun K hK => ?_) (fun K hK => ?_)
                · skip
                  refine goes_ Tryd.func10 (by kernel_rfl) rfl #[.int .i64 a0_2, .int .i64 a0_3] (by rfl) rfl rfl (by (try simp only [List.map_toArray, List.map_cons, List.map_nil]); first | done | rfl | (simp only [List.length_drop, List.length_take]; rfl)) ?_
                  with_reducible refine (laws_rgCut.calls a0_2 a0_3 t108 t109 _ A3.out).mono ?_
                  rintro e w13 ⟨rfl, hb⟩
                  refine ⟨_, rfl, ?_⟩
                  have n0_ := Aside0.mk (blk_below (g := gb104) (o := .cells #[.int .i64 a0_0, .int .i64 a0_1, .int .i64 a0_2, .int .i64 a0_3] 44 (0, 0)) (by (with_reducible repeat (first | refine blk_drewN ?_ _ | refine blk_drew ?_ | refine blk_alloc ?_ _)); exact BK104.out) hb)
                  have n1_ := Aside0.mk (blk_below (g := gb105) (o := .cells #[.int .i64 0, .int .i64 0, .int .i64 0, .int .i64 0] 44 (0, 0)) (by (with_reducible repeat (first | refine blk_drewN ?_ _ | refine blk_drew ?_ | refine blk_alloc ?_ _)); exact BK105.out) hb)
                  have n2_ := Aside0.mk (blk_below (g := gb111) (o := .cells #[.int .i64 0, .int .i64 0] 23 (0, 0)) (by (with_reducible repeat (first | refine blk_drewN ?_ _ | refine blk_drew ?_ | refine blk_alloc ?_ _)); exact BK111.out) hb)
                  have n3_ := Aside0.mk (below_step (by repeat (first | (with_reducible first | exact HB.out | apply below_alloc | apply pw_below_drewN | apply below_drew1 | refine below_set ?_ GE104.out | refine below_set ?_ GE105.out | refine below_set ?_ GE111.out) | exact HB.out)) hb)
                  clear BK104
                  clear BK105
                  clear BK111
                  clear HB
                  have BK104 := n0_
                  have BK105 := n1_
                  have BK111 := n2_
                  have HB := n3_
                  clear n0_ n1_ n2_ n3_
                  (try clear hb)
                  (try clear hb2)
                  (try clear hk)
                  (try clear hi)
                  refine hK.out _ _ ⟨(blk_cell BK104.out 0).trans rfl, (blk_cell BK104.out 1).trans rfl, (blk_cell BK104.out 2).trans rfl, (blk_cell BK104.out 3).trans rfl⟩ (fun hHeld => ?_)
                  clear hK K
                  refine norm_ (a' := ?_) ?_ ?_
                  rotate_left
                  · show Act.put _ (some 18) _ = _
                    simp only [Act.put, List.setIfInBounds_toArray, List.set_cons_zero, List.set_cons_succ, i64_w, i32_w]
                    rfl
                  exact norm_ (by first | (simp only [putAll, Act.put, List.setIfInBounds_toArray, List.set_cons_zero, List.set_cons_succ]; done) | (simp only [putAll, Act.put, List.setIfInBounds_toArray, List.set_cons_zero, List.set_cons_succ]; rfl)) (hJ6_13_15 (gb111) _ ⟨hHeld, (by (with_reducible repeat (first | refine blk_drewN ?_ _ | refine blk_drew ?_ | refine blk_alloc ?_ _)); exact BK104.out), (by (with_reducible repeat (first | refine blk_drewN ?_ _ | refine blk_drew ?_ | refine blk_alloc ?_ _)); exact BK105.out), (by (with_reducible repeat (first | refine blk_drewN ?_ _ | refine blk_drew ?_ | refine blk_alloc ?_ _)); exact BK111.out), GW111.out, GE111.out, NB104_111.out, NB111_104.out, NB105_111.out, NB111_105.out, (by repeat (first | (with_reducible first | exact HB.out | apply below_alloc | apply pw_below_drewN | apply below_drew1 | refine below_set ?_ GE104.out | refine below_set ?_ GE105.out | refine below_set ?_ GE111.out) | exact HB.out))⟩)
                · skip
                  refine box_step ?hg (N := 3) ?hd (cs := #[.int .i64 0, .int .i64 0]) (t := 23) ?hr ?_; (case hd => rfl); (case hg => rfl); (case hr => first | (go_simp; done) | (go_simp; rfl))
                  intro gb110 hg w13 hbox hb
                  have n0_ := Aside0.mk (blk_below (g := gb104) (o := .cells #[.int .i64 a0_0, .int .i64 a0_1, .int .i64 a0_2, .int .i64 a0_3] 44 (0, 0)) (by (with_reducible repeat (first | refine blk_drewN ?_ _ | refine blk_drew ?_ | refine blk_alloc ?_ _)); exact BK104.out) hb)
                  have n1_ := Aside0.mk (blk_below (g := gb105) (o := .cells #[.int .i64 0, .int .i64 0, .int .i64 0, .int .i64 0] 44 (0, 0)) (by (with_reducible repeat (first | refine blk_drewN ?_ _ | refine blk_drew ?_ | refine blk_alloc ?_ _)); exact BK105.out) hb)
                  have n2_ := Aside0.mk (blk_below (g := gb111) (o := .cells #[.int .i64 0, .int .i64 0] 23 (0, 0)) (by (with_reducible repeat (first | refine blk_drewN ?_ _ | refine blk_drew ?_ | refine blk_alloc ?_ _)); exact BK111.out) hb)
                  have n3_ := Aside0.mk (below_step (by repeat (first | (with_reducible first | exact HB.out | apply below_alloc | apply pw_below_drewN | apply below_drew1 | refine below_set ?_ GE104.out | refine below_set ?_ GE105.out | refine below_set ?_ GE111.out) | exact HB.out)) hb)
                  have n4_ := Aside0.mk (hbox)
                  have n5_ := Aside0.mk ((by rw [hg]; exact (below_size (by repeat (first | (with_reducible first | exact HB.out | apply below_alloc | apply pw_below_drewN | apply below_drew1 | refine below_set ?_ GE104.out | refine below_set ?_ GE105.out | refine below_set ?_ GE111.out) | exact HB.out))) : w.heap.size ≤ gb110))
                  have n6_ := Aside0.mk ((by rw [hg]; exact (below_size (by repeat (first | (with_reducible first | exact HB.out | apply below_alloc | apply pw_below_drewN | apply below_drew1 | refine below_set ?_ GE104.out | refine below_set ?_ GE105.out | refine below_set ?_ GE111.out) | exact HB.out))) : w.heap.size ≤ gb110))
                  have n7_ := Aside0.mk ((by rw [hg]; exact Nat.ne_of_lt (blk_lt (g := gb104) (o := .cells #[.int .i64 a0_0, .int .i64 a0_1, .int .i64 a0_2, .int .i64 a0_3] 44 (0, 0)) (by (with_reducible repeat (first | refine blk_drewN ?_ _ | refine blk_drew ?_ | refine blk_alloc ?_ _)); exact BK104.out)) : gb104 ≠ gb110))
                  have n8_ := Aside0.mk ((by rw [hg]; exact Nat.ne_of_gt (blk_lt (g := gb104) (o := .cells #[.int .i64 a0_0, .int .i64 a0_1, .int .i64 a0_2, .int .i64 a0_3] 44 (0, 0)) (by (with_reducible repeat (first | refine blk_drewN ?_ _ | refine blk_drew ?_ | refine blk_alloc ?_ _)); exact BK104.out)) : gb110 ≠ gb104))
                  have n9_ := Aside0.mk ((by rw [hg]; exact Nat.ne_of_lt (blk_lt (g := gb105) (o := .cells #[.int .i64 0, .int .i64 0, .int .i64 0, .int .i64 0] 44 (0, 0)) (by (with_reducible repeat (first | refine blk_drewN ?_ _ | refine blk_drew ?_ | refine blk_alloc ?_ _)); exact BK105.out)) : gb105 ≠ gb110))
                  have n10_ := Aside0.mk ((by rw [hg]; exact Nat.ne_of_gt (blk_lt (g := gb105) (o := .cells #[.int .i64 0, .int .i64 0, .int .i64 0, .int .i64 0] 44 (0, 0)) (by (with_reducible repeat (first | refine blk_drewN ?_ _ | refine blk_drew ?_ | refine blk_alloc ?_ _)); exact BK105.out)) : gb110 ≠ gb105))
                  have n11_ := Aside0.mk ((by rw [hg]; exact Nat.ne_of_lt (blk_lt (g := gb111) (o := .cells #[.int .i64 0, .int .i64 0] 23 (0, 0)) (by (with_reducible repeat (first | refine blk_drewN ?_ _ | refine blk_drew ?_ | refine blk_alloc ?_ _)); exact BK111.out)) : gb111 ≠ gb110))
                  have n12_ := Aside0.mk ((by rw [hg]; exact Nat.ne_of_gt (blk_lt (g := gb111) (o := .cells #[.int .i64 0, .int .i64 0] 23 (0, 0)) (by (with_reducible repeat (first | refine blk_drewN ?_ _ | refine blk_drew ?_ | refine blk_alloc ?_ _)); exact BK111.out)) : gb110 ≠ gb111))
                  clear BK104
                  clear BK105
                  clear BK111
                  clear HB
                  have BK104 := n0_
                  have BK105 := n1_
                  have BK111 := n2_
                  have HB := n3_
                  have BK110 := n4_
                  have GW110 := n5_
                  have GE110 := n6_
                  have NB104_110 := n7_
                  have NB110_104 := n8_
                  have NB105_110 := n9_
                  have NB110_105 := n10_
                  have NB111_110 := n11_
                  have NB110_111 := n12_
                  clear n0_ n1_ n2_ n3_ n4_ n5_ n6_ n7_ n8_ n9_ n10_ n11_ n12_
                  clear hb hbox hg
                  refine hK.out _ _ ⟨(blk_cell BK104.out 0).trans rfl, (blk_cell BK104.out 1).trans rfl, (blk_cell BK104.out 2).trans rfl, (blk_cell BK104.out 3).trans rfl⟩ (fun hHeld => ?_)
                  clear hK K
                  refine norm_ (a' := ?_) ?_ ?_
                  rotate_left
                  · show Act.put _ (some 3) _ = _
                    simp only [Act.put, List.setIfInBounds_toArray, List.set_cons_zero, List.set_cons_succ, i64_w, i32_w]
                    rfl
                  exact norm_ (by first | (simp only [putAll, Act.put, List.setIfInBounds_toArray, List.set_cons_zero, List.set_cons_succ]; done) | (simp only [putAll, Act.put, List.setIfInBounds_toArray, List.set_cons_zero, List.set_cons_succ]; rfl)) (hJ6_14_15 (gb110, gb111) _ ⟨hHeld, (by (with_reducible repeat (first | refine blk_drewN ?_ _ | refine blk_drew ?_ | refine blk_alloc ?_ _)); exact BK104.out), (by (with_reducible repeat (first | refine blk_drewN ?_ _ | refine blk_drew ?_ | refine blk_alloc ?_ _)); exact BK105.out), (by (with_reducible repeat (first | refine blk_drewN ?_ _ | refine blk_drew ?_ | refine blk_alloc ?_ _)); exact BK110.out), (by (with_reducible repeat (first | refine blk_drewN ?_ _ | refine blk_drew ?_ | refine blk_alloc ?_ _)); exact BK111.out), GW110.out, GE110.out, NB104_110.out, NB110_104.out, NB105_110.out, NB110_105.out, NB111_110.out, NB110_111.out, GW111.out, GE111.out, NB104_111.out, NB111_104.out, NB105_111.out, NB111_105.out, (by repeat (first | (with_reducible first | exact HB.out | apply below_alloc | apply pw_below_drewN | apply below_drew1 | refine below_set ?_ GE104.out | refine below_set ?_ GE105.out | refine below_set ?_ GE111.out | refine below_set ?_ GE110.out) | exact HB.out))⟩)
            · skip
              rintro gb110 w12 ⟨hS_, h0_, h1_, h2_, h3_, h4_, h5_, h6_, h7_, h8_, h9_⟩
              have n0_ : Aside0 (w12.heap[gb104]? = some (.cells #[.int .i64 a0_0, .int .i64 a0_1, .int .i64 a0_2, .int .i64 a0_3] 44 (0, 0))) := ⟨h0_⟩
              have n1_ : Aside0 (w12.heap[gb105]? = some (.cells #[.int .i64 0, .int .i64 0, .int .i64 0, .int .i64 0] 44 (0, 0))) := ⟨h1_⟩
              have n2_ : Aside0 (w12.heap[gb110]? = some (.cells #[.int .i64 0, .int .i64 0] 23 (0, 0))) := ⟨h2_⟩
              have n3_ : Aside0 (w.heap.size ≤ gb110) := ⟨h3_⟩
              have n4_ : Aside0 (w.heap.size ≤ gb110) := ⟨h4_⟩
              have n5_ : Aside0 (gb104 ≠ gb110) := ⟨h5_⟩
              have n6_ : Aside0 (gb110 ≠ gb104) := ⟨h6_⟩
              have n7_ : Aside0 (gb105 ≠ gb110) := ⟨h7_⟩
              have n8_ : Aside0 (gb110 ≠ gb105) := ⟨h8_⟩
              have n9_ : Aside0 (Below w.heap.size w w12) := ⟨h9_⟩
              clear BK104
              clear BK105
              clear HB
              clear h0_ h1_ h2_ h3_ h4_ h5_ h6_ h7_ h8_ h9_
              have BK104 := n0_
              have BK105 := n1_
              have BK110 := n2_
              have GW110 := n3_
              have GE110 := n4_
              have NB104_110 := n5_
              have NB110_104 := n6_
              have NB105_110 := n7_
              have NB110_105 := n8_
              have HB := n9_
              clear n0_ n1_ n2_ n3_ n4_ n5_ n6_ n7_ n8_ n9_
              have hHeld : w12.cell? ⟨gb104, 0, none⟩ = some (.int .i64 a0_0) ∧ w12.cell? ⟨gb104, 1, none⟩ = some (.int .i64 a0_1) ∧ w12.cell? ⟨gb104, 2, none⟩ = some (.int .i64 a0_2) ∧ w12.cell? ⟨gb104, 3, none⟩ = some (.int .i64 a0_3) := hS_
              refine norm_ (a' := ?_) ?_ ?_
              rotate_left
              · simp only [putAll, Act.put, List.setIfInBounds_toArray, List.set_cons_zero, List.set_cons_succ]
                rfl
              refine two_ (i := 13) (j := 15) (Ni := some 18) (Nj := some 4) #[true, true, true, true, true, true, true, true, true, true, true, true, true, true, true, false, false, false] #[true, true, true, true, true, true, true, true, true, true, true, true, true, false, true, true, false, false] rfl rfl rfl rfl (two_of HT_.out (by kernel_rfl)) (by decide) (by decide) (fun K hK => ?_) (fun K hK => ?_)
              · skip
                refine goes_ Tryd.func10 (by kernel_rfl) rfl #[.int .i64 a0_2, .int .i64 a0_3] (by rfl) rfl rfl (by (try simp only [List.map_toArray, List.map_cons, List.map_nil]); first | done | rfl | (simp only [List.length_drop, List.length_take]; rfl)) ?_
                with_reducible refine (laws_rgCut.calls a0_2 a0_3 t108 t109 _ A3.out).mono ?_
                rintro e w13 ⟨rfl, hb⟩
                refine ⟨_, rfl, ?_⟩
                have n0_ := Aside0.mk (blk_below (g := gb104) (o := .cells #[.int .i64 a0_0, .int .i64 a0_1, .int .i64 a0_2, .int .i64 a0_3] 44 (0, 0)) (by (with_reducible repeat (first | refine blk_drewN ?_ _ | refine blk_drew ?_ | refine blk_alloc ?_ _)); exact BK104.out) hb)
                have n1_ := Aside0.mk (blk_below (g := gb105) (o := .cells #[.int .i64 0, .int .i64 0, .int .i64 0, .int .i64 0] 44 (0, 0)) (by (with_reducible repeat (first | refine blk_drewN ?_ _ | refine blk_drew ?_ | refine blk_alloc ?_ _)); exact BK105.out) hb)
                have n2_ := Aside0.mk (blk_below (g := gb110) (o := .cells #[.int .i64 0, .int .i64 0] 23 (0, 0)) (by (with_reducible repeat (first | refine blk_drewN ?_ _ | refine blk_drew ?_ | refine blk_alloc ?_ _)); exact BK110.out) hb)
                have n3_ := Aside0.mk (below_step (by repeat (first | (with_reducible first | exact HB.out | apply below_alloc | apply pw_below_drewN | apply below_drew1 | refine below_set ?_ GE104.out | refine below_set ?_ GE105.out | refine below_set ?_ GE110.out) | exact HB.out)) hb)
                clear BK104
                clear BK105
                clear BK110
                clear HB
                have BK104 := n0_
                have BK105 := n1_
                have BK110 := n2_
                have HB := n3_
                clear n0_ n1_ n2_ n3_
                (try clear hb)
                (try clear hb2)
                (try clear hk)
                (try clear hi)
                refine hK.out _ _ ⟨(blk_cell BK104.out 0).trans rfl, (blk_cell BK104.out 1).trans rfl, (blk_cell BK104.out 2).trans rfl, (blk_cell BK104.out 3).trans rfl⟩ (fun hHeld => ?_)
                clear hK K
                refine norm_ (a' := ?_) ?_ ?_
                rotate_left
                · show Act.put _ (some 18) _ = _
                  simp only [Act.put, List.setIfInBounds_toArray, List.set_cons_zero, List.set_cons_succ, i64_w, i32_w]
                  rfl
                exact norm_ (by first | (simp only [putAll, Act.put, List.setIfInBounds_toArray, List.set_cons_zero, List.set_cons_succ]; done) | (simp only [putAll, Act.put, List.setIfInBounds_toArray, List.set_cons_zero, List.set_cons_succ]; rfl)) (hJ6_13_14 (gb110) _ ⟨hHeld, (by (with_reducible repeat (first | refine blk_drewN ?_ _ | refine blk_drew ?_ | refine blk_alloc ?_ _)); exact BK104.out), (by (with_reducible repeat (first | refine blk_drewN ?_ _ | refine blk_drew ?_ | refine blk_alloc ?_ _)); exact BK105.out), (by (with_reducible repeat (first | refine blk_drewN ?_ _ | refine blk_drew ?_ | refine blk_alloc ?_ _)); exact BK110.out), GW110.out, GE110.out, NB104_110.out, NB110_104.out, NB105_110.out, NB110_105.out, (by repeat (first | (with_reducible first | exact HB.out | apply below_alloc | apply pw_below_drewN | apply below_drew1 | refine below_set ?_ GE104.out | refine below_set ?_ GE105.out | refine below_set ?_ GE110.out) | exact HB.out))⟩)
              · skip
                refine box_step ?hg (N := 4) ?hd (cs := #[.int .i64 0, .int .i64 0]) (t := 23) ?hr ?_; (case hd => rfl); (case hg => rfl); (case hr => first | (go_simp; done) | (go_simp; rfl))
                intro gb111 hg w13 hbox hb
                have n0_ := Aside0.mk (blk_below (g := gb104) (o := .cells #[.int .i64 a0_0, .int .i64 a0_1, .int .i64 a0_2, .int .i64 a0_3] 44 (0, 0)) (by (with_reducible repeat (first | refine blk_drewN ?_ _ | refine blk_drew ?_ | refine blk_alloc ?_ _)); exact BK104.out) hb)
                have n1_ := Aside0.mk (blk_below (g := gb105) (o := .cells #[.int .i64 0, .int .i64 0, .int .i64 0, .int .i64 0] 44 (0, 0)) (by (with_reducible repeat (first | refine blk_drewN ?_ _ | refine blk_drew ?_ | refine blk_alloc ?_ _)); exact BK105.out) hb)
                have n2_ := Aside0.mk (blk_below (g := gb110) (o := .cells #[.int .i64 0, .int .i64 0] 23 (0, 0)) (by (with_reducible repeat (first | refine blk_drewN ?_ _ | refine blk_drew ?_ | refine blk_alloc ?_ _)); exact BK110.out) hb)
                have n3_ := Aside0.mk (below_step (by repeat (first | (with_reducible first | exact HB.out | apply below_alloc | apply pw_below_drewN | apply below_drew1 | refine below_set ?_ GE104.out | refine below_set ?_ GE105.out | refine below_set ?_ GE110.out) | exact HB.out)) hb)
                have n4_ := Aside0.mk (hbox)
                have n5_ := Aside0.mk ((by rw [hg]; exact (below_size (by repeat (first | (with_reducible first | exact HB.out | apply below_alloc | apply pw_below_drewN | apply below_drew1 | refine below_set ?_ GE104.out | refine below_set ?_ GE105.out | refine below_set ?_ GE110.out) | exact HB.out))) : w.heap.size ≤ gb111))
                have n6_ := Aside0.mk ((by rw [hg]; exact (below_size (by repeat (first | (with_reducible first | exact HB.out | apply below_alloc | apply pw_below_drewN | apply below_drew1 | refine below_set ?_ GE104.out | refine below_set ?_ GE105.out | refine below_set ?_ GE110.out) | exact HB.out))) : w.heap.size ≤ gb111))
                have n7_ := Aside0.mk ((by rw [hg]; exact Nat.ne_of_lt (blk_lt (g := gb104) (o := .cells #[.int .i64 a0_0, .int .i64 a0_1, .int .i64 a0_2, .int .i64 a0_3] 44 (0, 0)) (by (with_reducible repeat (first | refine blk_drewN ?_ _ | refine blk_drew ?_ | refine blk_alloc ?_ _)); exact BK104.out)) : gb104 ≠ gb111))
                have n8_ := Aside0.mk ((by rw [hg]; exact Nat.ne_of_gt (blk_lt (g := gb104) (o := .cells #[.int .i64 a0_0, .int .i64 a0_1, .int .i64 a0_2, .int .i64 a0_3] 44 (0, 0)) (by (with_reducible repeat (first | refine blk_drewN ?_ _ | refine blk_drew ?_ | refine blk_alloc ?_ _)); exact BK104.out)) : gb111 ≠ gb104))
                have n9_ := Aside0.mk ((by rw [hg]; exact Nat.ne_of_lt (blk_lt (g := gb105) (o := .cells #[.int .i64 0, .int .i64 0, .int .i64 0, .int .i64 0] 44 (0, 0)) (by (with_reducible repeat (first | refine blk_drewN ?_ _ | refine blk_drew ?_ | refine blk_alloc ?_ _)); exact BK105.out)) : gb105 ≠ gb111))
                have n10_ := Aside0.mk ((by rw [hg]; exact Nat.ne_of_gt (blk_lt (g := gb105) (o := .cells #[.int .i64 0, .int .i64 0, .int .i64 0, .int .i64 0] 44 (0, 0)) (by (with_reducible repeat (first | refine blk_drewN ?_ _ | refine blk_drew ?_ | refine blk_alloc ?_ _)); exact BK105.out)) : gb111 ≠ gb105))
                have n11_ := Aside0.mk ((by rw [hg]; exact Nat.ne_of_lt (blk_lt (g := gb110) (o := .cells #[.int .i64 0, .int .i64 0] 23 (0, 0)) (by (with_reducible repeat (first | refine blk_drewN ?_ _ | refine blk_drew ?_ | refine blk_alloc ?_ _)); exact BK110.out)) : gb110 ≠ gb111))
                have n12_ := Aside0.mk ((by rw [hg]; exact Nat.ne_of_gt (blk_lt (g := gb110) (o := .cells #[.int .i64 0, .int .i64 0] 23 (0, 0)) (by (with_reducible repeat (first | refine blk_drewN ?_ _ | refine blk_drew ?_ | refine blk_alloc ?_ _)); exact BK110.out)) : gb111 ≠ gb110))
                clear BK104
                clear BK105
                clear BK110
                clear HB
                have BK104 := n0_
                have BK105 := n1_
                have BK110 := n2_
                have HB := n3_
                have BK111 := n4_
                have GW111 := n5_
                have GE111 := n6_
                have NB104_111 := n7_
                have NB111_104 := n8_
                have NB105_111 := n9_
                have NB111_105 := n10_
                have NB110_111 := n11_
                have NB111_110 := n12_
                clear n0_ n1_ n2_ n3_ n4_ n5_ n6_ n7_ n8_ n9_ n10_ n11_ n12_
                clear hb hbox hg
                refine hK.out _ _ ⟨(blk_cell BK104.out 0).trans rfl, (blk_cell BK104.out 1).trans rfl, (blk_cell BK104.out 2).trans rfl, (blk_cell BK104.out 3).trans rfl⟩ (fun hHeld => ?_)
                clear hK K
                refine norm_ (a' := ?_) ?_ ?_
                rotate_left
                · show Act.put _ (some 4) _ = _
                  simp only [Act.put, List.setIfInBounds_toArray, List.set_cons_zero, List.set_cons_succ, i64_w, i32_w]
                  rfl
                exact norm_ (by first | (simp only [putAll, Act.put, List.setIfInBounds_toArray, List.set_cons_zero, List.set_cons_succ]; done) | (simp only [putAll, Act.put, List.setIfInBounds_toArray, List.set_cons_zero, List.set_cons_succ]; rfl)) (hJ6_14_15 (gb110, gb111) _ ⟨hHeld, (by (with_reducible repeat (first | refine blk_drewN ?_ _ | refine blk_drew ?_ | refine blk_alloc ?_ _)); exact BK104.out), (by (with_reducible repeat (first | refine blk_drewN ?_ _ | refine blk_drew ?_ | refine blk_alloc ?_ _)); exact BK105.out), (by (with_reducible repeat (first | refine blk_drewN ?_ _ | refine blk_drew ?_ | refine blk_alloc ?_ _)); exact BK110.out), (by (with_reducible repeat (first | refine blk_drewN ?_ _ | refine blk_drew ?_ | refine blk_alloc ?_ _)); exact BK111.out), GW110.out, GE110.out, NB104_110.out, NB110_104.out, NB105_110.out, NB110_105.out, NB111_110.out, NB110_111.out, GW111.out, GE111.out, NB104_111.out, NB111_104.out, NB105_111.out, NB111_105.out, (by repeat (first | (with_reducible first | exact HB.out | apply below_alloc | apply pw_below_drewN | apply below_drew1 | refine below_set ?_ GE104.out | refine below_set ?_ GE105.out | refine below_set ?_ GE110.out | refine below_set ?_ GE111.out) | exact HB.out))⟩)
          · skip
            rintro _ w12 ⟨hS_, h0_, h1_, h2_⟩
            have n0_ : Aside0 (w12.heap[gb104]? = some (.cells #[.int .i64 a0_0, .int .i64 a0_1, .int .i64 a0_2, .int .i64 a0_3] 44 (0, 0))) := ⟨h0_⟩
            have n1_ : Aside0 (w12.heap[gb105]? = some (.cells #[.int .i64 0, .int .i64 0, .int .i64 0, .int .i64 0] 44 (0, 0))) := ⟨h1_⟩
            have n2_ : Aside0 (Below w.heap.size w w12) := ⟨h2_⟩
            clear BK104
            clear BK105
            clear HB
            clear h0_ h1_ h2_
            have BK104 := n0_
            have BK105 := n1_
            have HB := n2_
            clear n0_ n1_ n2_
            have hHeld : w12.cell? ⟨gb104, 0, none⟩ = some (.int .i64 a0_0) ∧ w12.cell? ⟨gb104, 1, none⟩ = some (.int .i64 a0_1) ∧ w12.cell? ⟨gb104, 2, none⟩ = some (.int .i64 a0_2) ∧ w12.cell? ⟨gb104, 3, none⟩ = some (.int .i64 a0_3) := hS_
            refine norm_ (a' := ?_) ?_ ?_
            rotate_left
            · simp only [putAll, Act.put, List.setIfInBounds_toArray, List.set_cons_zero, List.set_cons_succ]
              rfl
            refine two_ (i := 14) (j := 15) (Ni := some 3) (Nj := some 4) #[true, true, true, true, true, true, true, true, true, true, true, true, true, true, true, false, false, false] #[true, true, true, true, true, true, true, true, true, true, true, true, true, true, false, true, false, false] rfl rfl rfl rfl (two_of HT_.out (by kernel_rfl)) (by decide) (by decide) (fun K hK => ?_) (fun K hK => ?_)
            · skip
              refine box_step ?hg (N := 3) ?hd (cs := #[.int .i64 0, .int .i64 0]) (t := 23) ?hr ?_; (case hd => rfl); (case hg => rfl); (case hr => first | (go_simp; done) | (go_simp; rfl))
              intro gb110 hg w13 hbox hb
              have n0_ := Aside0.mk (blk_below (g := gb104) (o := .cells #[.int .i64 a0_0, .int .i64 a0_1, .int .i64 a0_2, .int .i64 a0_3] 44 (0, 0)) (by (with_reducible repeat (first | refine blk_drewN ?_ _ | refine blk_drew ?_ | refine blk_alloc ?_ _)); exact BK104.out) hb)
              have n1_ := Aside0.mk (blk_below (g := gb105) (o := .cells #[.int .i64 0, .int .i64 0, .int .i64 0, .int .i64 0] 44 (0, 0)) (by (with_reducible repeat (first | refine blk_drewN ?_ _ | refine blk_drew ?_ | refine blk_alloc ?_ _)); exact BK105.out) hb)
              have n2_ := Aside0.mk (below_step (by repeat (first | (with_reducible first | exact HB.out | apply below_alloc | apply pw_below_drewN | apply below_drew1 | refine below_set ?_ GE104.out | refine below_set ?_ GE105.out) | exact HB.out)) hb)
              have n3_ := Aside0.mk (hbox)
              have n4_ := Aside0.mk ((by rw [hg]; exact (below_size (by repeat (first | (with_reducible first | exact HB.out | apply below_alloc | apply pw_below_drewN | apply below_drew1 | refine below_set ?_ GE104.out | refine below_set ?_ GE105.out) | exact HB.out))) : w.heap.size ≤ gb110))
              have n5_ := Aside0.mk ((by rw [hg]; exact (below_size (by repeat (first | (with_reducible first | exact HB.out | apply below_alloc | apply pw_below_drewN | apply below_drew1 | refine below_set ?_ GE104.out | refine below_set ?_ GE105.out) | exact HB.out))) : w.heap.size ≤ gb110))
              have n6_ := Aside0.mk ((by rw [hg]; exact Nat.ne_of_lt (blk_lt (g := gb104) (o := .cells #[.int .i64 a0_0, .int .i64 a0_1, .int .i64 a0_2, .int .i64 a0_3] 44 (0, 0)) (by (with_reducible repeat (first | refine blk_drewN ?_ _ | refine blk_drew ?_ | refine blk_alloc ?_ _)); exact BK104.out)) : gb104 ≠ gb110))
              have n7_ := Aside0.mk ((by rw [hg]; exact Nat.ne_of_gt (blk_lt (g := gb104) (o := .cells #[.int .i64 a0_0, .int .i64 a0_1, .int .i64 a0_2, .int .i64 a0_3] 44 (0, 0)) (by (with_reducible repeat (first | refine blk_drewN ?_ _ | refine blk_drew ?_ | refine blk_alloc ?_ _)); exact BK104.out)) : gb110 ≠ gb104))
              have n8_ := Aside0.mk ((by rw [hg]; exact Nat.ne_of_lt (blk_lt (g := gb105) (o := .cells #[.int .i64 0, .int .i64 0, .int .i64 0, .int .i64 0] 44 (0, 0)) (by (with_reducible repeat (first | refine blk_drewN ?_ _ | refine blk_drew ?_ | refine blk_alloc ?_ _)); exact BK105.out)) : gb105 ≠ gb110))
              have n9_ := Aside0.mk ((by rw [hg]; exact Nat.ne_of_gt (blk_lt (g := gb105) (o := .cells #[.int .i64 0, .int .i64 0, .int .i64 0, .int .i64 0] 44 (0, 0)) (by (with_reducible repeat (first | refine blk_drewN ?_ _ | refine blk_drew ?_ | refine blk_alloc ?_ _)); exact BK105.out)) : gb110 ≠ gb105))
              clear BK104
              clear BK105
              clear HB
              have BK104 := n0_
              have BK105 := n1_
              have HB := n2_
              have BK110 := n3_
              have GW110 := n4_
              have GE110 := n5_
              have NB104_110 := n6_
              have NB110_104 := n7_
              have NB105_110 := n8_
              have NB110_105 := n9_
              clear n0_ n1_ n2_ n3_ n4_ n5_ n6_ n7_ n8_ n9_
              clear hb hbox hg
              refine hK.out _ _ ⟨(blk_cell BK104.out 0).trans rfl, (blk_cell BK104.out 1).trans rfl, (blk_cell BK104.out 2).trans rfl, (blk_cell BK104.out 3).trans rfl⟩ (fun hHeld => ?_)
              clear hK K
              refine norm_ (a' := ?_) ?_ ?_
              rotate_left
              · show Act.put _ (some 3) _ = _
                simp only [Act.put, List.setIfInBounds_toArray, List.set_cons_zero, List.set_cons_succ, i64_w, i32_w]
                rfl
              exact norm_ (by first | (simp only [putAll, Act.put, List.setIfInBounds_toArray, List.set_cons_zero, List.set_cons_succ]; done) | (simp only [putAll, Act.put, List.setIfInBounds_toArray, List.set_cons_zero, List.set_cons_succ]; rfl)) (hJ6_13_14 (gb110) _ ⟨hHeld, (by (with_reducible repeat (first | refine blk_drewN ?_ _ | refine blk_drew ?_ | refine blk_alloc ?_ _)); exact BK104.out), (by (with_reducible repeat (first | refine blk_drewN ?_ _ | refine blk_drew ?_ | refine blk_alloc ?_ _)); exact BK105.out), (by (with_reducible repeat (first | refine blk_drewN ?_ _ | refine blk_drew ?_ | refine blk_alloc ?_ _)); exact BK110.out), GW110.out, GE110.out, NB104_110.out, NB110_104.out, NB105_110.out, NB110_105.out, (by repeat (first | (with_reducible first | exact HB.out | apply below_alloc | apply pw_below_drewN | apply below_drew1 | refine below_set ?_ GE104.out | refine below_set ?_ GE105.out | refine below_set ?_ GE110.out) | exact HB.out))⟩)
            · skip
              refine box_step ?hg (N := 4) ?hd (cs := #[.int .i64 0, .int .i64 0]) (t := 23) ?hr ?_; (case hd => rfl); (case hg => rfl); (case hr => first | (go_simp; done) | (go_simp; rfl))
              intro gb111 hg w13 hbox hb
              have n0_ := Aside0.mk (blk_below (g := gb104) (o := .cells #[.int .i64 a0_0, .int .i64 a0_1, .int .i64 a0_2, .int .i64 a0_3] 44 (0, 0)) (by (with_reducible repeat (first | refine blk_drewN ?_ _ | refine blk_drew ?_ | refine blk_alloc ?_ _)); exact BK104.out) hb)
              have n1_ := Aside0.mk (blk_below (g := gb105) (o := .cells #[.int .i64 0, .int .i64 0, .int .i64 0, .int .i64 0] 44 (0, 0)) (by (with_reducible repeat (first | refine blk_drewN ?_ _ | refine blk_drew ?_ | refine blk_alloc ?_ _)); exact BK105.out) hb)
              have n2_ := Aside0.mk (below_step (by repeat (first | (with_reducible first | exact HB.out | apply below_alloc | apply pw_below_drewN | apply below_drew1 | refine below_set ?_ GE104.out | refine below_set ?_ GE105.out) | exact HB.out)) hb)
              have n3_ := Aside0.mk (hbox)
              have n4_ := Aside0.mk ((by rw [hg]; exact (below_size (by repeat (first | (with_reducible first | exact HB.out | apply below_alloc | apply pw_below_drewN | apply below_drew1 | refine below_set ?_ GE104.out | refine below_set ?_ GE105.out) | exact HB.out))) : w.heap.size ≤ gb111))
              have n5_ := Aside0.mk ((by rw [hg]; exact (below_size (by repeat (first | (with_reducible first | exact HB.out | apply below_alloc | apply pw_below_drewN | apply below_drew1 | refine below_set ?_ GE104.out | refine below_set ?_ GE105.out) | exact HB.out))) : w.heap.size ≤ gb111))
              have n6_ := Aside0.mk ((by rw [hg]; exact Nat.ne_of_lt (blk_lt (g := gb104) (o := .cells #[.int .i64 a0_0, .int .i64 a0_1, .int .i64 a0_2, .int .i64 a0_3] 44 (0, 0)) (by (with_reducible repeat (first | refine blk_drewN ?_ _ | refine blk_drew ?_ | refine blk_alloc ?_ _)); exact BK104.out)) : gb104 ≠ gb111))
              have n7_ := Aside0.mk ((by rw [hg]; exact Nat.ne_of_gt (blk_lt (g := gb104) (o := .cells #[.int .i64 a0_0, .int .i64 a0_1, .int .i64 a0_2, .int .i64 a0_3] 44 (0, 0)) (by (with_reducible repeat (first | refine blk_drewN ?_ _ | refine blk_drew ?_ | refine blk_alloc ?_ _)); exact BK104.out)) : gb111 ≠ gb104))
              have n8_ := Aside0.mk ((by rw [hg]; exact Nat.ne_of_lt (blk_lt (g := gb105) (o := .cells #[.int .i64 0, .int .i64 0, .int .i64 0, .int .i64 0] 44 (0, 0)) (by (with_reducible repeat (first | refine blk_drewN ?_ _ | refine blk_drew ?_ | refine blk_alloc ?_ _)); exact BK105.out)) : gb105 ≠ gb111))
              have n9_ := Aside0.mk ((by rw [hg]; exact Nat.ne_of_gt (blk_lt (g := gb105) (o := .cells #[.int .i64 0, .int .i64 0, .int .i64 0, .int .i64 0] 44 (0, 0)) (by (with_reducible repeat (first | refine blk_drewN ?_ _ | refine blk_drew ?_ | refine blk_alloc ?_ _)); exact BK105.out)) : gb111 ≠ gb105))
              clear BK104
              clear BK105
              clear HB
              have BK104 := n0_
              have BK105 := n1_
              have HB := n2_
              have BK111 := n3_
              have GW111 := n4_
              have GE111 := n5_
              have NB104_111 := n6_
              have NB111_104 := n7_
              have NB105_111 := n8_
              have NB111_105 := n9_
              clear n0_ n1_ n2_ n3_ n4_ n5_ n6_ n7_ n8_ n9_
              clear hb hbox hg
              refine hK.out _ _ ⟨(blk_cell BK104.out 0).trans rfl, (blk_cell BK104.out 1).trans rfl, (blk_cell BK104.out 2).trans rfl, (blk_cell BK104.out 3).trans rfl⟩ (fun hHeld => ?_)
              clear hK K
              refine norm_ (a' := ?_) ?_ ?_
              rotate_left
              · show Act.put _ (some 4) _ = _
                simp only [Act.put, List.setIfInBounds_toArray, List.set_cons_zero, List.set_cons_succ, i64_w, i32_w]
                rfl
              exact norm_ (by first | (simp only [putAll, Act.put, List.setIfInBounds_toArray, List.set_cons_zero, List.set_cons_succ]; done) | (simp only [putAll, Act.put, List.setIfInBounds_toArray, List.set_cons_zero, List.set_cons_succ]; rfl)) (hJ6_13_15 (gb111) _ ⟨hHeld, (by (with_reducible repeat (first | refine blk_drewN ?_ _ | refine blk_drew ?_ | refine blk_alloc ?_ _)); exact BK104.out), (by (with_reducible repeat (first | refine blk_drewN ?_ _ | refine blk_drew ?_ | refine blk_alloc ?_ _)); exact BK105.out), (by (with_reducible repeat (first | refine blk_drewN ?_ _ | refine blk_drew ?_ | refine blk_alloc ?_ _)); exact BK111.out), GW111.out, GE111.out, NB104_111.out, NB111_104.out, NB105_111.out, NB111_105.out, (by repeat (first | (with_reducible first | exact HB.out | apply below_alloc | apply pw_below_drewN | apply below_drew1 | refine below_set ?_ GE104.out | refine below_set ?_ GE105.out | refine below_set ?_ GE111.out) | exact HB.out))⟩)
        · skip
          rintro ⟨gb110, gb111⟩ w13 ⟨hS_, h0_, h1_, h2_, h3_, h4_, h5_, h6_, h7_, h8_, h9_, h10_, h11_, h12_, h13_, h14_, h15_, h16_, h17_, h18_⟩
          have n0_ : Aside0 (w13.heap[gb104]? = some (.cells #[.int .i64 a0_0, .int .i64 a0_1, .int .i64 a0_2, .int .i64 a0_3] 44 (0, 0))) := ⟨h0_⟩
          have n1_ : Aside0 (w13.heap[gb105]? = some (.cells #[.int .i64 0, .int .i64 0, .int .i64 0, .int .i64 0] 44 (0, 0))) := ⟨h1_⟩
          have n2_ : Aside0 (w13.heap[gb110]? = some (.cells #[.int .i64 0, .int .i64 0] 23 (0, 0))) := ⟨h2_⟩
          have n3_ : Aside0 (w13.heap[gb111]? = some (.cells #[.int .i64 0, .int .i64 0] 23 (0, 0))) := ⟨h3_⟩
          have n4_ : Aside0 (w.heap.size ≤ gb110) := ⟨h4_⟩
          have n5_ : Aside0 (w.heap.size ≤ gb110) := ⟨h5_⟩
          have n6_ : Aside0 (gb104 ≠ gb110) := ⟨h6_⟩
          have n7_ : Aside0 (gb110 ≠ gb104) := ⟨h7_⟩
          have n8_ : Aside0 (gb105 ≠ gb110) := ⟨h8_⟩
          have n9_ : Aside0 (gb110 ≠ gb105) := ⟨h9_⟩
          have n10_ : Aside0 (gb111 ≠ gb110) := ⟨h10_⟩
          have n11_ : Aside0 (gb110 ≠ gb111) := ⟨h11_⟩
          have n12_ : Aside0 (w.heap.size ≤ gb111) := ⟨h12_⟩
          have n13_ : Aside0 (w.heap.size ≤ gb111) := ⟨h13_⟩
          have n14_ : Aside0 (gb104 ≠ gb111) := ⟨h14_⟩
          have n15_ : Aside0 (gb111 ≠ gb104) := ⟨h15_⟩
          have n16_ : Aside0 (gb105 ≠ gb111) := ⟨h16_⟩
          have n17_ : Aside0 (gb111 ≠ gb105) := ⟨h17_⟩
          have n18_ : Aside0 (Below w.heap.size w w13) := ⟨h18_⟩
          clear BK104
          clear BK105
          clear HB
          clear h0_ h1_ h2_ h3_ h4_ h5_ h6_ h7_ h8_ h9_ h10_ h11_ h12_ h13_ h14_ h15_ h16_ h17_ h18_
          have BK104 := n0_
          have BK105 := n1_
          have BK110 := n2_
          have BK111 := n3_
          have GW110 := n4_
          have GE110 := n5_
          have NB104_110 := n6_
          have NB110_104 := n7_
          have NB105_110 := n8_
          have NB110_105 := n9_
          have NB111_110 := n10_
          have NB110_111 := n11_
          have GW111 := n12_
          have GE111 := n13_
          have NB104_111 := n14_
          have NB111_104 := n15_
          have NB105_111 := n16_
          have NB111_105 := n17_
          have HB := n18_
          clear n0_ n1_ n2_ n3_ n4_ n5_ n6_ n7_ n8_ n9_ n10_ n11_ n12_ n13_ n14_ n15_ n16_ n17_ n18_
          have hHeld : w13.cell? ⟨gb104, 0, none⟩ = some (.int .i64 a0_0) ∧ w13.cell? ⟨gb104, 1, none⟩ = some (.int .i64 a0_1) ∧ w13.cell? ⟨gb104, 2, none⟩ = some (.int .i64 a0_2) ∧ w13.cell? ⟨gb104, 3, none⟩ = some (.int .i64 a0_3) := hS_
          refine norm_ (a' := ?_) ?_ ?_
          rotate_left
          · simp only [putAll, Act.put, List.setIfInBounds_toArray, List.set_cons_zero, List.set_cons_succ]
            rfl
          refine one_ (i := 13) (N := some 18) #[true, true, true, true, true, true, true, true, true, true, true, true, true, true, true, true, false, false] rfl rfl (one_of HT_.out (by kernel_rfl)) (by decide) (fun K hK => ?_)
          refine goes_ Tryd.func10 (by kernel_rfl) rfl #[.int .i64 a0_2, .int .i64 a0_3] (by rfl) rfl rfl (by (try simp only [List.map_toArray, List.map_cons, List.map_nil]); first | done | rfl | (simp only [List.length_drop, List.length_take]; rfl)) ?_
          with_reducible refine (laws_rgCut.calls a0_2 a0_3 t108 t109 _ A3.out).mono ?_
          rintro e w14 ⟨rfl, hb⟩
          refine ⟨_, rfl, ?_⟩
          have n0_ := Aside0.mk (blk_below (g := gb104) (o := .cells #[.int .i64 a0_0, .int .i64 a0_1, .int .i64 a0_2, .int .i64 a0_3] 44 (0, 0)) (by (with_reducible repeat (first | refine blk_drewN ?_ _ | refine blk_drew ?_ | refine blk_alloc ?_ _)); exact BK104.out) hb)
          have n1_ := Aside0.mk (blk_below (g := gb105) (o := .cells #[.int .i64 0, .int .i64 0, .int .i64 0, .int .i64 0] 44 (0, 0)) (by (with_reducible repeat (first | refine blk_drewN ?_ _ | refine blk_drew ?_ | refine blk_alloc ?_ _)); exact BK105.out) hb)
          have n2_ := Aside0.mk (blk_below (g := gb110) (o := .cells #[.int .i64 0, .int .i64 0] 23 (0, 0)) (by (with_reducible repeat (first | refine blk_drewN ?_ _ | refine blk_drew ?_ | refine blk_alloc ?_ _)); exact BK110.out) hb)
          have n3_ := Aside0.mk (blk_below (g := gb111) (o := .cells #[.int .i64 0, .int .i64 0] 23 (0, 0)) (by (with_reducible repeat (first | refine blk_drewN ?_ _ | refine blk_drew ?_ | refine blk_alloc ?_ _)); exact BK111.out) hb)
          have n4_ := Aside0.mk (below_step (by repeat (first | (with_reducible first | exact HB.out | apply below_alloc | apply pw_below_drewN | apply below_drew1 | refine below_set ?_ GE104.out | refine below_set ?_ GE105.out | refine below_set ?_ GE110.out | refine below_set ?_ GE111.out) | exact HB.out)) hb)
          clear BK104
          clear BK105
          clear BK110
          clear BK111
          clear HB
          have BK104 := n0_
          have BK105 := n1_
          have BK110 := n2_
          have BK111 := n3_
          have HB := n4_
          clear n0_ n1_ n2_ n3_ n4_
          (try clear hb)
          (try clear hb2)
          (try clear hk)
          (try clear hi)
          refine hK.out _ _ ⟨(blk_cell BK104.out 0).trans rfl, (blk_cell BK104.out 1).trans rfl, (blk_cell BK104.out 2).trans rfl, (blk_cell BK104.out 3).trans rfl⟩ (fun hHeld => ?_)
          clear hK K
          refine norm_ (a' := ?_) ?_ ?_
          rotate_left
          · show Act.put _ (some 18) _ = _
            simp only [Act.put, List.setIfInBounds_toArray, List.set_cons_zero, List.set_cons_succ, i64_w, i32_w]
            rfl
          exact norm_ (by first | (simp only [putAll, Act.put, List.setIfInBounds_toArray, List.set_cons_zero, List.set_cons_succ]; done) | (simp only [putAll, Act.put, List.setIfInBounds_toArray, List.set_cons_zero, List.set_cons_succ]; rfl)) (hJ6_13_14_15 (gb110, gb111) _ ⟨hHeld, (by (with_reducible repeat (first | refine blk_drewN ?_ _ | refine blk_drew ?_ | refine blk_alloc ?_ _)); exact BK104.out), (by (with_reducible repeat (first | refine blk_drewN ?_ _ | refine blk_drew ?_ | refine blk_alloc ?_ _)); exact BK105.out), (by (with_reducible repeat (first | refine blk_drewN ?_ _ | refine blk_drew ?_ | refine blk_alloc ?_ _)); exact BK110.out), (by (with_reducible repeat (first | refine blk_drewN ?_ _ | refine blk_drew ?_ | refine blk_alloc ?_ _)); exact BK111.out), GW110.out, GE110.out, NB104_110.out, NB110_104.out, NB105_110.out, NB110_105.out, NB111_110.out, NB110_111.out, GW111.out, GE111.out, NB104_111.out, NB111_104.out, NB105_111.out, NB111_105.out, (by repeat (first | (with_reducible first | exact HB.out | apply below_alloc | apply pw_below_drewN | apply below_drew1 | refine below_set ?_ GE104.out | refine below_set ?_ GE105.out | refine below_set ?_ GE110.out | refine below_set ?_ GE111.out) | exact HB.out))⟩)
      · skip
        rintro gb111 w13 ⟨hS_, h0_, h1_, h2_, h3_, h4_, h5_, h6_, h7_, h8_, h9_⟩
        have n0_ : Aside0 (w13.heap[gb104]? = some (.cells #[.int .i64 a0_0, .int .i64 a0_1, .int .i64 a0_2, .int .i64 a0_3] 44 (0, 0))) := ⟨h0_⟩
        have n1_ : Aside0 (w13.heap[gb105]? = some (.cells #[.int .i64 0, .int .i64 0, .int .i64 0, .int .i64 0] 44 (0, 0))) := ⟨h1_⟩
        have n2_ : Aside0 (w13.heap[gb111]? = some (.cells #[.int .i64 0, .int .i64 0] 23 (0, 0))) := ⟨h2_⟩
        have n3_ : Aside0 (w.heap.size ≤ gb111) := ⟨h3_⟩
        have n4_ : Aside0 (w.heap.size ≤ gb111) := ⟨h4_⟩
        have n5_ : Aside0 (gb104 ≠ gb111) := ⟨h5_⟩
        have n6_ : Aside0 (gb111 ≠ gb104) := ⟨h6_⟩
        have n7_ : Aside0 (gb105 ≠ gb111) := ⟨h7_⟩
        have n8_ : Aside0 (gb111 ≠ gb105) := ⟨h8_⟩
        have n9_ : Aside0 (Below w.heap.size w w13) := ⟨h9_⟩
        clear BK104
        clear BK105
        clear HB
        clear h0_ h1_ h2_ h3_ h4_ h5_ h6_ h7_ h8_ h9_
        have BK104 := n0_
        have BK105 := n1_
        have BK111 := n2_
        have GW111 := n3_
        have GE111 := n4_
        have NB104_111 := n5_
        have NB111_104 := n6_
        have NB105_111 := n7_
        have NB111_105 := n8_
        have HB := n9_
        clear n0_ n1_ n2_ n3_ n4_ n5_ n6_ n7_ n8_ n9_
        have hHeld : w13.cell? ⟨gb104, 0, none⟩ = some (.int .i64 a0_0) ∧ w13.cell? ⟨gb104, 1, none⟩ = some (.int .i64 a0_1) ∧ w13.cell? ⟨gb104, 2, none⟩ = some (.int .i64 a0_2) ∧ w13.cell? ⟨gb104, 3, none⟩ = some (.int .i64 a0_3) := hS_
        refine norm_ (a' := ?_) ?_ ?_
        rotate_left
        · simp only [putAll, Act.put, List.setIfInBounds_toArray, List.set_cons_zero, List.set_cons_succ]
          rfl
        refine one_ (i := 14) (N := some 3) #[true, true, true, true, true, true, true, true, true, true, true, true, true, true, true, true, false, false] rfl rfl (one_of HT_.out (by kernel_rfl)) (by decide) (fun K hK => ?_)
        refine box_step ?hg (N := 3) ?hd (cs := #[.int .i64 0, .int .i64 0]) (t := 23) ?hr ?_; (case hd => rfl); (case hg => rfl); (case hr => first | (go_simp; done) | (go_simp; rfl))
        intro gb110 hg w14 hbox hb
        have n0_ := Aside0.mk (blk_below (g := gb104) (o := .cells #[.int .i64 a0_0, .int .i64 a0_1, .int .i64 a0_2, .int .i64 a0_3] 44 (0, 0)) (by (with_reducible repeat (first | refine blk_drewN ?_ _ | refine blk_drew ?_ | refine blk_alloc ?_ _)); exact BK104.out) hb)
        have n1_ := Aside0.mk (blk_below (g := gb105) (o := .cells #[.int .i64 0, .int .i64 0, .int .i64 0, .int .i64 0] 44 (0, 0)) (by (with_reducible repeat (first | refine blk_drewN ?_ _ | refine blk_drew ?_ | refine blk_alloc ?_ _)); exact BK105.out) hb)
        have n2_ := Aside0.mk (blk_below (g := gb111) (o := .cells #[.int .i64 0, .int .i64 0] 23 (0, 0)) (by (with_reducible repeat (first | refine blk_drewN ?_ _ | refine blk_drew ?_ | refine blk_alloc ?_ _)); exact BK111.out) hb)
        have n3_ := Aside0.mk (below_step (by repeat (first | (with_reducible first | exact HB.out | apply below_alloc | apply pw_below_drewN | apply below_drew1 | refine below_set ?_ GE104.out | refine below_set ?_ GE105.out | refine below_set ?_ GE111.out) | exact HB.out)) hb)
        have n4_ := Aside0.mk (hbox)
        have n5_ := Aside0.mk ((by rw [hg]; exact (below_size (by repeat (first | (with_reducible first | exact HB.out | apply below_alloc | apply pw_below_drewN | apply below_drew1 | refine below_set ?_ GE104.out | refine below_set ?_ GE105.out | refine below_set ?_ GE111.out) | exact HB.out))) : w.heap.size ≤ gb110))
        have n6_ := Aside0.mk ((by rw [hg]; exact (below_size (by repeat (first | (with_reducible first | exact HB.out | apply below_alloc | apply pw_below_drewN | apply below_drew1 | refine below_set ?_ GE104.out | refine below_set ?_ GE105.out | refine below_set ?_ GE111.out) | exact HB.out))) : w.heap.size ≤ gb110))
        have n7_ := Aside0.mk ((by rw [hg]; exact Nat.ne_of_lt (blk_lt (g := gb104) (o := .cells #[.int .i64 a0_0, .int .i64 a0_1, .int .i64 a0_2, .int .i64 a0_3] 44 (0, 0)) (by (with_reducible repeat (first | refine blk_drewN ?_ _ | refine blk_drew ?_ | refine blk_alloc ?_ _)); exact BK104.out)) : gb104 ≠ gb110))
        have n8_ := Aside0.mk ((by rw [hg]; exact Nat.ne_of_gt (blk_lt (g := gb104) (o := .cells #[.int .i64 a0_0, .int .i64 a0_1, .int .i64 a0_2, .int .i64 a0_3] 44 (0, 0)) (by (with_reducible repeat (first | refine blk_drewN ?_ _ | refine blk_drew ?_ | refine blk_alloc ?_ _)); exact BK104.out)) : gb110 ≠ gb104))
        have n9_ := Aside0.mk ((by rw [hg]; exact Nat.ne_of_lt (blk_lt (g := gb105) (o := .cells #[.int .i64 0, .int .i64 0, .int .i64 0, .int .i64 0] 44 (0, 0)) (by (with_reducible repeat (first | refine blk_drewN ?_ _ | refine blk_drew ?_ | refine blk_alloc ?_ _)); exact BK105.out)) : gb105 ≠ gb110))
        have n10_ := Aside0.mk ((by rw [hg]; exact Nat.ne_of_gt (blk_lt (g := gb105) (o := .cells #[.int .i64 0, .int .i64 0, .int .i64 0, .int .i64 0] 44 (0, 0)) (by (with_reducible repeat (first | refine blk_drewN ?_ _ | refine blk_drew ?_ | refine blk_alloc ?_ _)); exact BK105.out)) : gb110 ≠ gb105))
        have n11_ := Aside0.mk ((by rw [hg]; exact Nat.ne_of_lt (blk_lt (g := gb111) (o := .cells #[.int .i64 0, .int .i64 0] 23 (0, 0)) (by (with_reducible repeat (first | refine blk_drewN ?_ _ | refine blk_drew ?_ | refine blk_alloc ?_ _)); exact BK111.out)) : gb111 ≠ gb110))
        have n12_ := Aside0.mk ((by rw [hg]; exact Nat.ne_of_gt (blk_lt (g := gb111) (o := .cells #[.int .i64 0, .int .i64 0] 23 (0, 0)) (by (with_reducible repeat (first | refine blk_drewN ?_ _ | refine blk_drew ?_ | refine blk_alloc ?_ _)); exact BK111.out)) : gb110 ≠ gb111))
        clear BK104
        clear BK105
        clear BK111
        clear HB
        have BK104 := n0_
        have BK105 := n1_
        have BK111 := n2_
        have HB := n3_
        have BK110 := n4_
        have GW110 := n5_
        have GE110 := n6_
        have NB104_110 := n7_
        have NB110_104 := n8_
        have NB105_110 := n9_
        have NB110_105 := n10_
        have NB111_110 := n11_
        have NB110_111 := n12_
        clear n0_ n1_ n2_ n3_ n4_ n5_ n6_ n7_ n8_ n9_ n10_ n11_ n12_
        clear hb hbox hg
        refine hK.out _ _ ⟨(blk_cell BK104.out 0).trans rfl, (blk_cell BK104.out 1).trans rfl, (blk_cell BK104.out 2).trans rfl, (blk_cell BK104.out 3).trans rfl⟩ (fun hHeld => ?_)
        clear hK K
        refine norm_ (a' := ?_) ?_ ?_
        rotate_left
        · show Act.put _ (some 3) _ = _
          simp only [Act.put, List.setIfInBounds_toArray, List.set_cons_zero, List.set_cons_succ, i64_w, i32_w]
          rfl
        exact norm_ (by first | (simp only [putAll, Act.put, List.setIfInBounds_toArray, List.set_cons_zero, List.set_cons_succ]; done) | (simp only [putAll, Act.put, List.setIfInBounds_toArray, List.set_cons_zero, List.set_cons_succ]; rfl)) (hJ6_13_14_15 (gb110, gb111) _ ⟨hHeld, (by (with_reducible repeat (first | refine blk_drewN ?_ _ | refine blk_drew ?_ | refine blk_alloc ?_ _)); exact BK104.out), (by (with_reducible repeat (first | refine blk_drewN ?_ _ | refine blk_drew ?_ | refine blk_alloc ?_ _)); exact BK105.out), (by (with_reducible repeat (first | refine blk_drewN ?_ _ | refine blk_drew ?_ | refine blk_alloc ?_ _)); exact BK110.out), (by (with_reducible repeat (first | refine blk_drewN ?_ _ | refine blk_drew ?_ | refine blk_alloc ?_ _)); exact BK111.out), GW110.out, GE110.out, NB104_110.out, NB110_104.out, NB105_110.out, NB110_105.out, NB111_110.out, NB110_111.out, GW111.out, GE111.out, NB104_111.out, NB111_104.out, NB105_111.out, NB111_105.out, (by repeat (first | (with_reducible first | exact HB.out | apply below_alloc | apply pw_below_drewN | apply below_drew1 | refine below_set ?_ GE104.out | refine below_set ?_ GE105.out | refine below_set ?_ GE111.out | refine below_set ?_ GE110.out) | exact HB.out))⟩)
    · skip
      rintro gb110 w13 ⟨hS_, h0_, h1_, h2_, h3_, h4_, h5_, h6_, h7_, h8_, h9_⟩
      have n0_ : Aside0 (w13.heap[gb104]? = some (.cells #[.int .i64 a0_0, .int .i64 a0_1, .int .i64 a0_2, .int .i64 a0_3] 44 (0, 0))) := ⟨h0_⟩
      have n1_ : Aside0 (w13.heap[gb105]? = some (.cells #[.int .i64 0, .int .i64 0, .int .i64 0, .int .i64 0] 44 (0, 0))) := ⟨h1_⟩
      have n2_ : Aside0 (w13.heap[gb110]? = some (.cells #[.int .i64 0, .int .i64 0] 23 (0, 0))) := ⟨h2_⟩
      have n3_ : Aside0 (w.heap.size ≤ gb110) := ⟨h3_⟩
      have n4_ : Aside0 (w.heap.size ≤ gb110) := ⟨h4_⟩
      have n5_ : Aside0 (gb104 ≠ gb110) := ⟨h5_⟩
      have n6_ : Aside0 (gb110 ≠ gb104) := ⟨h6_⟩
      have n7_ : Aside0 (gb105 ≠ gb110) := ⟨h7_⟩
      have n8_ : Aside0 (gb110 ≠ gb105) := ⟨h8_⟩
      have n9_ : Aside0 (Below w.heap.size w w13) := ⟨h9_⟩
      clear BK104
      clear BK105
      clear HB
      clear h0_ h1_ h2_ h3_ h4_ h5_ h6_ h7_ h8_ h9_
      have BK104 := n0_
      have BK105 := n1_
      have BK110 := n2_
      have GW110 := n3_
      have GE110 := n4_
      have NB104_110 := n5_
      have NB110_104 := n6_
      have NB105_110 := n7_
      have NB110_105 := n8_
      have HB := n9_
      clear n0_ n1_ n2_ n3_ n4_ n5_ n6_ n7_ n8_ n9_
      have hHeld : w13.cell? ⟨gb104, 0, none⟩ = some (.int .i64 a0_0) ∧ w13.cell? ⟨gb104, 1, none⟩ = some (.int .i64 a0_1) ∧ w13.cell? ⟨gb104, 2, none⟩ = some (.int .i64 a0_2) ∧ w13.cell? ⟨gb104, 3, none⟩ = some (.int .i64 a0_3) := hS_
      refine norm_ (a' := ?_) ?_ ?_
      rotate_left
      · simp only [putAll, Act.put, List.setIfInBounds_toArray, List.set_cons_zero, List.set_cons_succ]
        rfl
      refine one_ (i := 15) (N := some 4) #[true, true, true, true, true, true, true, true, true, true, true, true, true, true, true, true, false, false] rfl rfl (one_of HT_.out (by kernel_rfl)) (by decide) (fun K hK => ?_)
      refine box_step ?hg (N := 4) ?hd (cs := #[.int .i64 0, .int .i64 0]) (t := 23) ?hr ?_; (case hd => rfl); (case hg => rfl); (case hr => first | (go_simp; done) | (go_simp; rfl))
      intro gb111 hg w14 hbox hb
      have n0_ := Aside0.mk (blk_below (g := gb104) (o := .cells #[.int .i64 a0_0, .int .i64 a0_1, .int .i64 a0_2, .int .i64 a0_3] 44 (0, 0)) (by (with_reducible repeat (first | refine blk_drewN ?_ _ | refine blk_drew ?_ | refine blk_alloc ?_ _)); exact BK104.out) hb)
      have n1_ := Aside0.mk (blk_below (g := gb105) (o := .cells #[.int .i64 0, .int .i64 0, .int .i64 0, .int .i64 0] 44 (0, 0)) (by (with_reducible repeat (first | refine blk_drewN ?_ _ | refine blk_drew ?_ | refine blk_alloc ?_ _)); exact BK105.out) hb)
      have n2_ := Aside0.mk (blk_below (g := gb110) (o := .cells #[.int .i64 0, .int .i64 0] 23 (0, 0)) (by (with_reducible repeat (first | refine blk_drewN ?_ _ | refine blk_drew ?_ | refine blk_alloc ?_ _)); exact BK110.out) hb)
      have n3_ := Aside0.mk (below_step (by repeat (first | (with_reducible first | exact HB.out | apply below_alloc | apply pw_below_drewN | apply below_drew1 | refine below_set ?_ GE104.out | refine below_set ?_ GE105.out | refine below_set ?_ GE110.out) | exact HB.out)) hb)
      have n4_ := Aside0.mk (hbox)
      have n5_ := Aside0.mk ((by rw [hg]; exact (below_size (by repeat (first | (with_reducible first | exact HB.out | apply below_alloc | apply pw_below_drewN | apply below_drew1 | refine below_set ?_ GE104.out | refine below_set ?_ GE105.out | refine below_set ?_ GE110.out) | exact HB.out))) : w.heap.size ≤ gb111))
      have n6_ := Aside0.mk ((by rw [hg]; exact (below_size (by repeat (first | (with_reducible first | exact HB.out | apply below_alloc | apply pw_below_drewN | apply below_drew1 | refine below_set ?_ GE104.out | refine below_set ?_ GE105.out | refine below_set ?_ GE110.out) | exact HB.out))) : w.heap.size ≤ gb111))
      have n7_ := Aside0.mk ((by rw [hg]; exact Nat.ne_of_lt (blk_lt (g := gb104) (o := .cells #[.int .i64 a0_0, .int .i64 a0_1, .int .i64 a0_2, .int .i64 a0_3] 44 (0, 0)) (by (with_reducible repeat (first | refine blk_drewN ?_ _ | refine blk_drew ?_ | refine blk_alloc ?_ _)); exact BK104.out)) : gb104 ≠ gb111))
      have n8_ := Aside0.mk ((by rw [hg]; exact Nat.ne_of_gt (blk_lt (g := gb104) (o := .cells #[.int .i64 a0_0, .int .i64 a0_1, .int .i64 a0_2, .int .i64 a0_3] 44 (0, 0)) (by (with_reducible repeat (first | refine blk_drewN ?_ _ | refine blk_drew ?_ | refine blk_alloc ?_ _)); exact BK104.out)) : gb111 ≠ gb104))
      have n9_ := Aside0.mk ((by rw [hg]; exact Nat.ne_of_lt (blk_lt (g := gb105) (o := .cells #[.int .i64 0, .int .i64 0, .int .i64 0, .int .i64 0] 44 (0, 0)) (by (with_reducible repeat (first | refine blk_drewN ?_ _ | refine blk_drew ?_ | refine blk_alloc ?_ _)); exact BK105.out)) : gb105 ≠ gb111))
      have n10_ := Aside0.mk ((by rw [hg]; exact Nat.ne_of_gt (blk_lt (g := gb105) (o := .cells #[.int .i64 0, .int .i64 0, .int .i64 0, .int .i64 0] 44 (0, 0)) (by (with_reducible repeat (first | refine blk_drewN ?_ _ | refine blk_drew ?_ | refine blk_alloc ?_ _)); exact BK105.out)) : gb111 ≠ gb105))
      have n11_ := Aside0.mk ((by rw [hg]; exact Nat.ne_of_lt (blk_lt (g := gb110) (o := .cells #[.int .i64 0, .int .i64 0] 23 (0, 0)) (by (with_reducible repeat (first | refine blk_drewN ?_ _ | refine blk_drew ?_ | refine blk_alloc ?_ _)); exact BK110.out)) : gb110 ≠ gb111))
      have n12_ := Aside0.mk ((by rw [hg]; exact Nat.ne_of_gt (blk_lt (g := gb110) (o := .cells #[.int .i64 0, .int .i64 0] 23 (0, 0)) (by (with_reducible repeat (first | refine blk_drewN ?_ _ | refine blk_drew ?_ | refine blk_alloc ?_ _)); exact BK110.out)) : gb111 ≠ gb110))
      clear BK104
      clear BK105
      clear BK110
      clear HB
      have BK104 := n0_
      have BK105 := n1_
      have BK110 := n2_
      have HB := n3_
      have BK111 := n4_
      have GW111 := n5_
      have GE111 := n6_
      have NB104_111 := n7_
      have NB111_104 := n8_
      have NB105_111 := n9_
      have NB111_105 := n10_
      have NB110_111 := n11_
      have NB111_110 := n12_
      clear n0_ n1_ n2_ n3_ n4_ n5_ n6_ n7_ n8_ n9_ n10_ n11_ n12_
      clear hb hbox hg
      refine hK.out _ _ ⟨(blk_cell BK104.out 0).trans rfl, (blk_cell BK104.out 1).trans rfl, (blk_cell BK104.out 2).trans rfl, (blk_cell BK104.out 3).trans rfl⟩ (fun hHeld => ?_)
      clear hK K
      refine norm_ (a' := ?_) ?_ ?_
      rotate_left
      · show Act.put _ (some 4) _ = _
        simp only [Act.put, List.setIfInBounds_toArray, List.set_cons_zero, List.set_cons_succ, i64_w, i32_w]
        rfl
      exact norm_ (by first | (simp only [putAll, Act.put, List.setIfInBounds_toArray, List.set_cons_zero, List.set_cons_succ]; done) | (simp only [putAll, Act.put, List.setIfInBounds_toArray, List.set_cons_zero, List.set_cons_succ]; rfl)) (hJ6_13_14_15 (gb110, gb111) _ ⟨hHeld, (by (with_reducible repeat (first | refine blk_drewN ?_ _ | refine blk_drew ?_ | refine blk_alloc ?_ _)); exact BK104.out), (by (with_reducible repeat (first | refine blk_drewN ?_ _ | refine blk_drew ?_ | refine blk_alloc ?_ _)); exact BK105.out), (by (with_reducible repeat (first | refine blk_drewN ?_ _ | refine blk_drew ?_ | refine blk_alloc ?_ _)); exact BK110.out), (by (with_reducible repeat (first | refine blk_drewN ?_ _ | refine blk_drew ?_ | refine blk_alloc ?_ _)); exact BK111.out), GW110.out, GE110.out, NB104_110.out, NB110_104.out, NB105_110.out, NB110_105.out, NB111_110.out, NB110_111.out, GW111.out, GE111.out, NB104_111.out, NB111_104.out, NB105_111.out, NB111_105.out, (by repeat (first | (with_reducible first | exact HB.out | apply below_alloc | apply pw_below_drewN | apply below_drew1 | refine below_set ?_ GE104.out | refine below_set ?_ GE105.out | refine below_set ?_ GE110.out | refine below_set ?_ GE111.out) | exact HB.out))⟩)
  rintro ⟨gb110, gb111⟩ w14 ⟨hS_, h0_, h1_, h2_, h3_, h4_, h5_, h6_, h7_, h8_, h9_, h10_, h11_, h12_, h13_, h14_, h15_, h16_, h17_, h18_⟩
  have n0_ : Aside0 (w14.heap[gb104]? = some (.cells #[.int .i64 a0_0, .int .i64 a0_1, .int .i64 a0_2, .int .i64 a0_3] 44 (0, 0))) := ⟨h0_⟩
  have n1_ : Aside0 (w14.heap[gb105]? = some (.cells #[.int .i64 0, .int .i64 0, .int .i64 0, .int .i64 0] 44 (0, 0))) := ⟨h1_⟩
  have n2_ : Aside0 (w14.heap[gb110]? = some (.cells #[.int .i64 0, .int .i64 0] 23 (0, 0))) := ⟨h2_⟩
  have n3_ : Aside0 (w14.heap[gb111]? = some (.cells #[.int .i64 0, .int .i64 0] 23 (0, 0))) := ⟨h3_⟩
  have n4_ : Aside0 (w.heap.size ≤ gb110) := ⟨h4_⟩
  have n5_ : Aside0 (w.heap.size ≤ gb110) := ⟨h5_⟩
  have n6_ : Aside0 (gb104 ≠ gb110) := ⟨h6_⟩
  have n7_ : Aside0 (gb110 ≠ gb104) := ⟨h7_⟩
  have n8_ : Aside0 (gb105 ≠ gb110) := ⟨h8_⟩
  have n9_ : Aside0 (gb110 ≠ gb105) := ⟨h9_⟩
  have n10_ : Aside0 (gb111 ≠ gb110) := ⟨h10_⟩
  have n11_ : Aside0 (gb110 ≠ gb111) := ⟨h11_⟩
  have n12_ : Aside0 (w.heap.size ≤ gb111) := ⟨h12_⟩
  have n13_ : Aside0 (w.heap.size ≤ gb111) := ⟨h13_⟩
  have n14_ : Aside0 (gb104 ≠ gb111) := ⟨h14_⟩
  have n15_ : Aside0 (gb111 ≠ gb104) := ⟨h15_⟩
  have n16_ : Aside0 (gb105 ≠ gb111) := ⟨h16_⟩
  have n17_ : Aside0 (gb111 ≠ gb105) := ⟨h17_⟩
  have n18_ : Aside0 (Below w.heap.size w w14) := ⟨h18_⟩
  clear BK104
  clear BK105
  clear HB
  clear h0_ h1_ h2_ h3_ h4_ h5_ h6_ h7_ h8_ h9_ h10_ h11_ h12_ h13_ h14_ h15_ h16_ h17_ h18_
  have BK104 := n0_
  have BK105 := n1_
  have BK110 := n2_
  have BK111 := n3_
  have GW110 := n4_
  have GE110 := n5_
  have NB104_110 := n6_
  have NB110_104 := n7_
  have NB105_110 := n8_
  have NB110_105 := n9_
  have NB111_110 := n10_
  have NB110_111 := n11_
  have GW111 := n12_
  have GE111 := n13_
  have NB104_111 := n14_
  have NB111_104 := n15_
  have NB105_111 := n16_
  have NB111_105 := n17_
  have HB := n18_
  clear n0_ n1_ n2_ n3_ n4_ n5_ n6_ n7_ n8_ n9_ n10_ n11_ n12_ n13_ n14_ n15_ n16_ n17_ n18_
  have hHeld : w14.cell? ⟨gb104, 0, none⟩ = some (.int .i64 a0_0) ∧ w14.cell? ⟨gb104, 1, none⟩ = some (.int .i64 a0_1) ∧ w14.cell? ⟨gb104, 2, none⟩ = some (.int .i64 a0_2) ∧ w14.cell? ⟨gb104, 3, none⟩ = some (.int .i64 a0_3) := hS_
  refine norm_ (a' := ?_) ?_ ?_
  rotate_left
  · simp only [putAll, Act.put, List.setIfInBounds_toArray, List.set_cons_zero, List.set_cons_succ]
    rfl
  refine one_ (i := 16) (N := none) #[true, true, true, true, true, true, true, true, true, true, true, true, true, true, true, true, true, false] rfl rfl (one_of HT_.out (by kernel_rfl)) (by decide) (fun K hK => ?_)
  have hs15 : w14.cell? ⟨gb110, 0, none⟩ = some (.int .i64 0) := (blk_cell BK110.out 0).trans rfl
  have hfs15 := blk_frozen BK110.out 0
  have hns15_0 := NB104_110.out
  have hns15_1 := NB105_110.out
  have hns15_3 := NB111_110.out
  have hms15_0 := NB110_104.out
  have hms15_1 := NB110_105.out
  have hms15_3 := NB110_111.out
  have hs16 : w14.cell? ⟨gb110, 1, none⟩ = some (.int .i64 0) := (blk_cell BK110.out 1).trans rfl
  have hfs16 := blk_frozen BK110.out 1
  have hns16_0 := NB104_110.out
  have hns16_1 := NB105_110.out
  have hns16_3 := NB111_110.out
  have hms16_0 := NB110_104.out
  have hms16_1 := NB110_105.out
  have hms16_3 := NB110_111.out
  refine skip_ (w1 := ?_) (by rfl) rfl ?_ ?_
  rotate_left
  · go_simp
    rfl
  refine hK.out _ _ ⟨((cell_far (p := ⟨gb110, _, none⟩) NB104_110.out _).trans (((cell_far (p := ⟨gb110, _, none⟩) NB104_110.out _).trans (hHeld.1)))), ((cell_far (p := ⟨gb110, _, none⟩) NB104_110.out _).trans (((cell_far (p := ⟨gb110, _, none⟩) NB104_110.out _).trans (hHeld.2.1)))), ((cell_far (p := ⟨gb110, _, none⟩) NB104_110.out _).trans (((cell_far (p := ⟨gb110, _, none⟩) NB104_110.out _).trans (hHeld.2.2.1)))), ((cell_far (p := ⟨gb110, _, none⟩) NB104_110.out _).trans (((cell_far (p := ⟨gb110, _, none⟩) NB104_110.out _).trans (hHeld.2.2.2))))⟩ (fun hHeld => ?_)
  clear hK K
  refine one_ (i := 17) (N := none) #[true, true, true, true, true, true, true, true, true, true, true, true, true, true, true, true, true, true] rfl rfl (one_of HT_.out (by kernel_rfl)) (by decide) (fun K hK => ?_)
  have hs17 : w14.cell? ⟨gb111, 0, none⟩ = some (.int .i64 0) := (blk_cell BK111.out 0).trans rfl
  have hfs17 := blk_frozen BK111.out 0
  have hns17_0 := NB104_111.out
  have hns17_1 := NB105_111.out
  have hns17_2 := NB110_111.out
  have hms17_0 := NB111_104.out
  have hms17_1 := NB111_105.out
  have hms17_2 := NB111_110.out
  have hs18 : w14.cell? ⟨gb111, 1, none⟩ = some (.int .i64 0) := (blk_cell BK111.out 1).trans rfl
  have hfs18 := blk_frozen BK111.out 1
  have hns18_0 := NB104_111.out
  have hns18_1 := NB105_111.out
  have hns18_2 := NB110_111.out
  have hms18_0 := NB111_104.out
  have hms18_1 := NB111_105.out
  have hms18_2 := NB111_110.out
  refine skip_ (w1 := ?_) (by rfl) rfl ?_ ?_
  rotate_left
  · go_simp
    rfl
  refine hK.out _ _ ⟨((cell_far (p := ⟨gb111, _, none⟩) NB104_111.out _).trans (((cell_far (p := ⟨gb111, _, none⟩) NB104_111.out _).trans (hHeld.1)))), ((cell_far (p := ⟨gb111, _, none⟩) NB104_111.out _).trans (((cell_far (p := ⟨gb111, _, none⟩) NB104_111.out _).trans (hHeld.2.1)))), ((cell_far (p := ⟨gb111, _, none⟩) NB104_111.out _).trans (((cell_far (p := ⟨gb111, _, none⟩) NB104_111.out _).trans (hHeld.2.2.1)))), ((cell_far (p := ⟨gb111, _, none⟩) NB104_111.out _).trans (((cell_far (p := ⟨gb111, _, none⟩) NB104_111.out _).trans (hHeld.2.2.2))))⟩ (fun hHeld => ?_)
  clear hK K
  refine done_ (done_of HT_.out (by kernel_rfl)) ?_
  try go_wp2
  have n0_ : Aside0 (((((w14.setCell ⟨gb110, 0, none⟩ (.int .i64 t106)).setCell ⟨gb110, 1, none⟩ (.int .i64 t107)).setCell ⟨gb111, 0, none⟩ (.int .i64 t108)).setCell ⟨gb111, 1, none⟩ (.int .i64 t109)).heap[gb104]? = some (.cells #[.int .i64 a0_0, .int .i64 a0_1, .int .i64 a0_2, .int .i64 a0_3] 44 (0, 0))) := ⟨by (with_reducible repeat (first | refine blk_drewN ?_ _ | refine blk_drew ?_ | refine blk_alloc ?_ _)); refine blk_far ?_ NB104_111.out _; (with_reducible repeat (first | refine blk_drewN ?_ _ | refine blk_drew ?_ | refine blk_alloc ?_ _)); refine blk_far ?_ NB104_111.out _; (with_reducible repeat (first | refine blk_drewN ?_ _ | refine blk_drew ?_ | refine blk_alloc ?_ _)); refine blk_far ?_ NB104_110.out _; (with_reducible repeat (first | refine blk_drewN ?_ _ | refine blk_drew ?_ | refine blk_alloc ?_ _)); refine blk_far ?_ NB104_110.out _; (with_reducible repeat (first | refine blk_drewN ?_ _ | refine blk_drew ?_ | refine blk_alloc ?_ _)); exact BK104.out⟩
  have n1_ : Aside0 (((((w14.setCell ⟨gb110, 0, none⟩ (.int .i64 t106)).setCell ⟨gb110, 1, none⟩ (.int .i64 t107)).setCell ⟨gb111, 0, none⟩ (.int .i64 t108)).setCell ⟨gb111, 1, none⟩ (.int .i64 t109)).heap[gb105]? = some (.cells #[.int .i64 0, .int .i64 0, .int .i64 0, .int .i64 0] 44 (0, 0))) := ⟨by (with_reducible repeat (first | refine blk_drewN ?_ _ | refine blk_drew ?_ | refine blk_alloc ?_ _)); refine blk_far ?_ NB105_111.out _; (with_reducible repeat (first | refine blk_drewN ?_ _ | refine blk_drew ?_ | refine blk_alloc ?_ _)); refine blk_far ?_ NB105_111.out _; (with_reducible repeat (first | refine blk_drewN ?_ _ | refine blk_drew ?_ | refine blk_alloc ?_ _)); refine blk_far ?_ NB105_110.out _; (with_reducible repeat (first | refine blk_drewN ?_ _ | refine blk_drew ?_ | refine blk_alloc ?_ _)); refine blk_far ?_ NB105_110.out _; (with_reducible repeat (first | refine blk_drewN ?_ _ | refine blk_drew ?_ | refine blk_alloc ?_ _)); exact BK105.out⟩
  have n2_ : Aside0 (((((w14.setCell ⟨gb110, 0, none⟩ (.int .i64 t106)).setCell ⟨gb110, 1, none⟩ (.int .i64 t107)).setCell ⟨gb111, 0, none⟩ (.int .i64 t108)).setCell ⟨gb111, 1, none⟩ (.int .i64 t109)).heap[gb110]? = some (.cells #[.int .i64 t106, .int .i64 t107] 23 (0, 0))) := ⟨by (with_reducible repeat (first | refine blk_drewN ?_ _ | refine blk_drew ?_ | refine blk_alloc ?_ _)); refine blk_far ?_ NB110_111.out _; (with_reducible repeat (first | refine blk_drewN ?_ _ | refine blk_drew ?_ | refine blk_alloc ?_ _)); refine blk_far ?_ NB110_111.out _; (with_reducible repeat (first | refine blk_drewN ?_ _ | refine blk_drew ?_ | refine blk_alloc ?_ _)); refine blk_put (cs := #[.int .i64 t106, .int .i64 0]) ?_ 1 _ rfl; (with_reducible repeat (first | refine blk_drewN ?_ _ | refine blk_drew ?_ | refine blk_alloc ?_ _)); refine blk_put (cs := #[.int .i64 0, .int .i64 0]) ?_ 0 _ rfl; (with_reducible repeat (first | refine blk_drewN ?_ _ | refine blk_drew ?_ | refine blk_alloc ?_ _)); exact BK110.out⟩
  have n3_ : Aside0 (((((w14.setCell ⟨gb110, 0, none⟩ (.int .i64 t106)).setCell ⟨gb110, 1, none⟩ (.int .i64 t107)).setCell ⟨gb111, 0, none⟩ (.int .i64 t108)).setCell ⟨gb111, 1, none⟩ (.int .i64 t109)).heap[gb111]? = some (.cells #[.int .i64 t108, .int .i64 t109] 23 (0, 0))) := ⟨by (with_reducible repeat (first | refine blk_drewN ?_ _ | refine blk_drew ?_ | refine blk_alloc ?_ _)); refine blk_put (cs := #[.int .i64 t108, .int .i64 0]) ?_ 1 _ rfl; (with_reducible repeat (first | refine blk_drewN ?_ _ | refine blk_drew ?_ | refine blk_alloc ?_ _)); refine blk_put (cs := #[.int .i64 0, .int .i64 0]) ?_ 0 _ rfl; (with_reducible repeat (first | refine blk_drewN ?_ _ | refine blk_drew ?_ | refine blk_alloc ?_ _)); refine blk_far ?_ NB111_110.out _; (with_reducible repeat (first | refine blk_drewN ?_ _ | refine blk_drew ?_ | refine blk_alloc ?_ _)); refine blk_far ?_ NB111_110.out _; (with_reducible repeat (first | refine blk_drewN ?_ _ | refine blk_drew ?_ | refine blk_alloc ?_ _)); exact BK111.out⟩
  have n4_ : Aside0 (Below w.heap.size w ((((w14.setCell ⟨gb110, 0, none⟩ (.int .i64 t106)).setCell ⟨gb110, 1, none⟩ (.int .i64 t107)).setCell ⟨gb111, 0, none⟩ (.int .i64 t108)).setCell ⟨gb111, 1, none⟩ (.int .i64 t109))) := ⟨by repeat (first | (with_reducible first | exact HB.out | apply below_alloc | apply pw_below_drewN | apply below_drew1 | refine below_set ?_ GE104.out | refine below_set ?_ GE105.out | refine below_set ?_ GE110.out | refine below_set ?_ GE111.out) | exact HB.out)⟩
  (try clear BK104)
  (try clear BK105)
  (try clear BK110)
  (try clear BK111)
  (try clear HB)
  generalize ((((w14.setCell ⟨gb110, 0, none⟩ (.int .i64 t106)).setCell ⟨gb110, 1, none⟩ (.int .i64 t107)).setCell ⟨gb111, 0, none⟩ (.int .i64 t108)).setCell ⟨gb111, 1, none⟩ (.int .i64 t109)) = w19 at n0_ n1_ n2_ n3_ n4_ ⊢
  have BK104 := n0_
  have BK105 := n1_
  have BK110 := n2_
  have BK111 := n3_
  have HB := n4_
  clear n0_ n1_ n2_ n3_ n4_
  have n0_ := Aside0.mk (blk_drew BK104.out)
  have n1_ := Aside0.mk (blk_drew BK105.out)
  have n2_ := Aside0.mk (blk_drew BK110.out)
  have n3_ := Aside0.mk (blk_drew BK111.out)
  have n4_ := Aside0.mk (below_drew1 HB.out)
  clear BK104
  clear BK105
  clear BK110
  clear BK111
  clear HB
  have BK104 := n0_
  have BK105 := n1_
  have BK110 := n2_
  have BK111 := n3_
  have HB := n4_
  clear n0_ n1_ n2_ n3_ n4_
  refine start_ (n := 5) (S := fun w' => w'.cell? ⟨gb110, 0, none⟩ = some (.int .i64 t106) ∧ w'.cell? ⟨gb110, 1, none⟩ = some (.int .i64 t107) ∧ w'.cell? ⟨gb111, 0, none⟩ = some (.int .i64 t108) ∧ w'.cell? ⟨gb111, 1, none⟩ = some (.int .i64 t109)) (ds := []) #[false, false, false, false, false] (by kernel_rfl) rfl rfl ⟨(blk_cell BK110.out 0).trans rfl, (blk_cell BK110.out 1).trans rfl, (blk_cell BK111.out 0).trans rfl, (blk_cell BK111.out 1).trans rfl⟩ (fun hHeld => ?_)
  generalize w19.drew = w20 at BK104 BK105 BK110 BK111 HB hHeld ⊢
  refine take_ (i := 0) (N := some 19) (v := ?_) (a' := ?_) #[true, false, false, false, false] rfl rfl (by kernel_rfl) (fun _ _ _ h => h) (Or.inl ⟨by rfl, ?_⟩) hHeld ?_ ?_
  rotate_left
  · rintro w' ⟨s0, s1, s2, s3⟩
    go_simp
    with_reducible rfl
  rotate_left
  · simp only [Act.put, List.setIfInBounds_toArray, List.set_cons_zero, List.set_cons_succ, i64_w, i32_w]
    rfl
  refine take_ (i := 2) (N := some 21) (v := ?_) (a' := ?_) #[true, false, true, false, false] rfl rfl (by kernel_rfl) (fun _ _ _ h => h) (Or.inl ⟨by rfl, ?_⟩) hHeld ?_ ?_
  rotate_left
  · rintro w' ⟨s0, s1, s2, s3⟩
    go_simp
    with_reducible rfl
  rotate_left
  · simp only [Act.put, List.setIfInBounds_toArray, List.set_cons_zero, List.set_cons_succ, i64_w, i32_w]
    rfl
  refine one_ (i := 1) (N := some 20) #[true, true, true, false, false] rfl rfl (by kernel_rfl) (by decide) (fun K hK => ?_)
  refine goes_ Tryd.func13 (by kernel_rfl) rfl #[.agg #[.int .i64 t106, .int .i64 t107]] (by rfl) rfl rfl (by (try simp only [List.map_toArray, List.map_cons, List.map_nil]); first | done | rfl | (simp only [List.length_drop, List.length_take]; rfl)) ?_
  with_reducible refine (spec_RGPlace.calls k t106 t107 t112 _ A4.out).mono ?_
  rintro e w21 ⟨rfl, hb⟩
  refine ⟨_, rfl, ?_⟩
  have n0_ := Aside0.mk (blk_below (g := gb104) (o := .cells #[.int .i64 a0_0, .int .i64 a0_1, .int .i64 a0_2, .int .i64 a0_3] 44 (0, 0)) (by (with_reducible repeat (first | refine blk_drewN ?_ _ | refine blk_drew ?_ | refine blk_alloc ?_ _)); exact BK104.out) hb)
  have n1_ := Aside0.mk (blk_below (g := gb105) (o := .cells #[.int .i64 0, .int .i64 0, .int .i64 0, .int .i64 0] 44 (0, 0)) (by (with_reducible repeat (first | refine blk_drewN ?_ _ | refine blk_drew ?_ | refine blk_alloc ?_ _)); exact BK105.out) hb)
  have n2_ := Aside0.mk (blk_below (g := gb110) (o := .cells #[.int .i64 t106, .int .i64 t107] 23 (0, 0)) (by (with_reducible repeat (first | refine blk_drewN ?_ _ | refine blk_drew ?_ | refine blk_alloc ?_ _)); exact BK110.out) hb)
  have n3_ := Aside0.mk (blk_below (g := gb111) (o := .cells #[.int .i64 t108, .int .i64 t109] 23 (0, 0)) (by (with_reducible repeat (first | refine blk_drewN ?_ _ | refine blk_drew ?_ | refine blk_alloc ?_ _)); exact BK111.out) hb)
  have n4_ := Aside0.mk (below_step (by repeat (first | (with_reducible first | exact HB.out | apply below_alloc | apply pw_below_drewN | apply below_drew1 | refine below_set ?_ GE104.out | refine below_set ?_ GE105.out | refine below_set ?_ GE110.out | refine below_set ?_ GE111.out) | exact HB.out)) hb)
  clear BK104
  clear BK105
  clear BK110
  clear BK111
  clear HB
  have BK104 := n0_
  have BK105 := n1_
  have BK110 := n2_
  have BK111 := n3_
  have HB := n4_
  clear n0_ n1_ n2_ n3_ n4_
  (try clear hb)
  (try clear hb2)
  (try clear hk)
  (try clear hi)
  refine hK.out _ _ ⟨(blk_cell BK110.out 0).trans rfl, (blk_cell BK110.out 1).trans rfl, (blk_cell BK111.out 0).trans rfl, (blk_cell BK111.out 1).trans rfl⟩ (fun hHeld => ?_)
  clear hK K
  refine norm_ (a' := ?_) ?_ ?_
  rotate_left
  · show Act.put _ (some 20) _ = _
    simp only [Act.put, List.setIfInBounds_toArray, List.set_cons_zero, List.set_cons_succ, i64_w, i32_w]
    rfl
  refine one_ (i := 3) (N := some 22) #[true, true, true, true, false] rfl rfl (by kernel_rfl) (by decide) (fun K hK => ?_)
  refine goes_ Tryd.func13 (by kernel_rfl) rfl #[.agg #[.int .i64 t108, .int .i64 t109]] (by rfl) rfl rfl (by (try simp only [List.map_toArray, List.map_cons, List.map_nil]); first | done | rfl | (simp only [List.length_drop, List.length_take]; rfl)) ?_
  with_reducible refine (spec_RGPlace.calls k t108 t109 t113 _ A5.out).mono ?_
  rintro e w22 ⟨rfl, hb⟩
  refine ⟨_, rfl, ?_⟩
  have n0_ := Aside0.mk (blk_below (g := gb104) (o := .cells #[.int .i64 a0_0, .int .i64 a0_1, .int .i64 a0_2, .int .i64 a0_3] 44 (0, 0)) (by (with_reducible repeat (first | refine blk_drewN ?_ _ | refine blk_drew ?_ | refine blk_alloc ?_ _)); exact BK104.out) hb)
  have n1_ := Aside0.mk (blk_below (g := gb105) (o := .cells #[.int .i64 0, .int .i64 0, .int .i64 0, .int .i64 0] 44 (0, 0)) (by (with_reducible repeat (first | refine blk_drewN ?_ _ | refine blk_drew ?_ | refine blk_alloc ?_ _)); exact BK105.out) hb)
  have n2_ := Aside0.mk (blk_below (g := gb110) (o := .cells #[.int .i64 t106, .int .i64 t107] 23 (0, 0)) (by (with_reducible repeat (first | refine blk_drewN ?_ _ | refine blk_drew ?_ | refine blk_alloc ?_ _)); exact BK110.out) hb)
  have n3_ := Aside0.mk (blk_below (g := gb111) (o := .cells #[.int .i64 t108, .int .i64 t109] 23 (0, 0)) (by (with_reducible repeat (first | refine blk_drewN ?_ _ | refine blk_drew ?_ | refine blk_alloc ?_ _)); exact BK111.out) hb)
  have n4_ := Aside0.mk (below_step (by repeat (first | (with_reducible first | exact HB.out | apply below_alloc | apply pw_below_drewN | apply below_drew1 | refine below_set ?_ GE104.out | refine below_set ?_ GE105.out | refine below_set ?_ GE110.out | refine below_set ?_ GE111.out) | exact HB.out)) hb)
  clear BK104
  clear BK105
  clear BK110
  clear BK111
  clear HB
  have BK104 := n0_
  have BK105 := n1_
  have BK110 := n2_
  have BK111 := n3_
  have HB := n4_
  clear n0_ n1_ n2_ n3_ n4_
  (try clear hb)
  (try clear hb2)
  (try clear hk)
  (try clear hi)
  refine hK.out _ _ ⟨(blk_cell BK110.out 0).trans rfl, (blk_cell BK110.out 1).trans rfl, (blk_cell BK111.out 0).trans rfl, (blk_cell BK111.out 1).trans rfl⟩ (fun hHeld => ?_)
  clear hK K
  refine norm_ (a' := ?_) ?_ ?_
  rotate_left
  · show Act.put _ (some 22) _ = _
    simp only [Act.put, List.setIfInBounds_toArray, List.set_cons_zero, List.set_cons_succ, i64_w, i32_w]
    rfl
  refine pure_ (i := 4) (N := some 23) (v := ?_) (a' := ?_) #[true, true, true, true, true] rfl rfl (by kernel_rfl) (fun _ _ _ h => h) (Or.inl ⟨by rfl, ?_⟩) ?_ ?_
  rotate_left
  · intro w'
    go_simp
    with_reducible rfl
  rotate_left
  · simp only [Act.put, List.setIfInBounds_toArray, List.set_cons_zero, List.set_cons_succ, i64_w, i32_w]
    rfl
  refine done_ (by kernel_rfl) ?_
  go_upto_if 23 with (fail)
  go_cut [] (fun wc => ∃ (kq : Nat) (x111000_5 : Int) (x111001_5 : Int) (x112000_5 : Int) (x112001_5 : Int), Aside0 (laws_rgFull.j0 kq x111000_5 x111001_5 x112000_5 x112001_5 = some (r1, r2, r3, r4)) ∧ Aside0 (kq ≤ k) ∧ Aside0 (wc.heap[gb104]? = some (.cells #[.int .i64 a0_0, .int .i64 a0_1, .int .i64 a0_2, .int .i64 a0_3] 44 (0, 0))) ∧ Aside0 (wc.heap[gb105]? = some (.cells #[.int .i64 0, .int .i64 0, .int .i64 0, .int .i64 0] 44 (0, 0))) ∧ Aside0 (wc.heap[gb110]? = some (.cells #[.int .i64 x111000_5, .int .i64 x111001_5] 23 (0, 0))) ∧ Aside0 (wc.heap[gb111]? = some (.cells #[.int .i64 x112000_5, .int .i64 x112001_5] 23 (0, 0))) ∧ Aside0 (Below w.heap.size w wc))
  case first =>
    have H := HC6.out
    clear HC6
    by_cases c23 : t112 > t113
    · rw [if_pos c23] at H
      have c23b0 : decide (t113 < t112) = true := decide_eq_true c23
      clear c23
      (first | rw [c23b0] | (simp only [i64_w, i32_w]; rw [c23b0]) | skip)
      have H' := Aside0.mk H
      clear H
      have hnb24 := NB111_104.out
      have hnc24 := NB104_111.out
      have hnb25 := NB111_105.out
      have hnc25 := NB105_111.out
      have hnb26 := NB111_110.out
      have hnc26 := NB110_111.out
      have hcz27_0 : w22.cell? ⟨gb111, 0, none⟩ = some (.int .i64 t108) := (blk_cell BK111.out 0).trans rfl
      have hcz27_1 : w22.cell? ⟨gb111, 1, none⟩ = some (.int .i64 t109) := (blk_cell BK111.out 1).trans rfl
      have hfz27_0 := blk_frozen BK111.out 0
      have hfz27_1 := blk_frozen BK111.out 1
      have hnb28 := NB110_104.out
      have hnc28 := NB104_110.out
      have hnb29 := NB110_105.out
      have hnc29 := NB105_110.out
      have hcz30_0 : w22.cell? ⟨gb110, 0, none⟩ = some (.int .i64 t106) := (blk_cell BK110.out 0).trans rfl
      have hcz30_1 : w22.cell? ⟨gb110, 1, none⟩ = some (.int .i64 t107) := (blk_cell BK110.out 1).trans rfl
      have hfz30_0 := blk_frozen BK110.out 0
      have hfz30_1 := blk_frozen BK110.out 1
      go_wp2
      go_meet
      case rel => exact ⟨_, (t108), (t109), (t106), (t107), H', ⟨by first | omega | exact Nat.le_refl _⟩, ⟨by (with_reducible repeat (first | refine blk_drewN ?_ _ | refine blk_drew ?_ | refine blk_alloc ?_ _)); refine blk_far ?_ NB104_111.out _; (with_reducible repeat (first | refine blk_drewN ?_ _ | refine blk_drew ?_ | refine blk_alloc ?_ _)); refine blk_far ?_ NB104_111.out _; (with_reducible repeat (first | refine blk_drewN ?_ _ | refine blk_drew ?_ | refine blk_alloc ?_ _)); refine blk_far ?_ NB104_110.out _; (with_reducible repeat (first | refine blk_drewN ?_ _ | refine blk_drew ?_ | refine blk_alloc ?_ _)); refine blk_far ?_ NB104_110.out _; (with_reducible repeat (first | refine blk_drewN ?_ _ | refine blk_drew ?_ | refine blk_alloc ?_ _)); exact BK104.out⟩, ⟨by (with_reducible repeat (first | refine blk_drewN ?_ _ | refine blk_drew ?_ | refine blk_alloc ?_ _)); refine blk_far ?_ NB105_111.out _; (with_reducible repeat (first | refine blk_drewN ?_ _ | refine blk_drew ?_ | refine blk_alloc ?_ _)); refine blk_far ?_ NB105_111.out _; (with_reducible repeat (first | refine blk_drewN ?_ _ | refine blk_drew ?_ | refine blk_alloc ?_ _)); refine blk_far ?_ NB105_110.out _; (with_reducible repeat (first | refine blk_drewN ?_ _ | refine blk_drew ?_ | refine blk_alloc ?_ _)); refine blk_far ?_ NB105_110.out _; (with_reducible repeat (first | refine blk_drewN ?_ _ | refine blk_drew ?_ | refine blk_alloc ?_ _)); exact BK105.out⟩, ⟨by (with_reducible repeat (first | refine blk_drewN ?_ _ | refine blk_drew ?_ | refine blk_alloc ?_ _)); refine blk_far ?_ NB110_111.out _; (with_reducible repeat (first | refine blk_drewN ?_ _ | refine blk_drew ?_ | refine blk_alloc ?_ _)); refine blk_far ?_ NB110_111.out _; (with_reducible repeat (first | refine blk_drewN ?_ _ | refine blk_drew ?_ | refine blk_alloc ?_ _)); refine blk_put (cs := #[.int .i64 t108, .int .i64 t107]) ?_ 1 _ rfl; (with_reducible repeat (first | refine blk_drewN ?_ _ | refine blk_drew ?_ | refine blk_alloc ?_ _)); refine blk_put (cs := #[.int .i64 t106, .int .i64 t107]) ?_ 0 _ rfl; (with_reducible repeat (first | refine blk_drewN ?_ _ | refine blk_drew ?_ | refine blk_alloc ?_ _)); exact BK110.out⟩, ⟨by (with_reducible repeat (first | refine blk_drewN ?_ _ | refine blk_drew ?_ | refine blk_alloc ?_ _)); refine blk_put (cs := #[.int .i64 t106, .int .i64 t109]) ?_ 1 _ rfl; (with_reducible repeat (first | refine blk_drewN ?_ _ | refine blk_drew ?_ | refine blk_alloc ?_ _)); refine blk_put (cs := #[.int .i64 t108, .int .i64 t109]) ?_ 0 _ rfl; (with_reducible repeat (first | refine blk_drewN ?_ _ | refine blk_drew ?_ | refine blk_alloc ?_ _)); refine blk_far ?_ NB111_110.out _; (with_reducible repeat (first | refine blk_drewN ?_ _ | refine blk_drew ?_ | refine blk_alloc ?_ _)); refine blk_far ?_ NB111_110.out _; (with_reducible repeat (first | refine blk_drewN ?_ _ | refine blk_drew ?_ | refine blk_alloc ?_ _)); exact BK111.out⟩, ⟨by repeat (first | (with_reducible first | exact HB.out | apply below_alloc | apply pw_below_drewN | apply below_drew1 | refine below_set ?_ GE104.out | refine below_set ?_ GE105.out | refine below_set ?_ GE110.out | refine below_set ?_ GE111.out) | exact HB.out)⟩⟩
    · rw [if_neg c23] at H
      have c23b0 : decide (t113 < t112) = false := decide_eq_false c23
      clear c23
      (first | rw [c23b0] | (simp only [i64_w, i32_w]; rw [c23b0]) | skip)
      have H' := Aside0.mk H
      clear H
      go_wp2
      go_meet
      case rel => exact ⟨_, (t106), (t107), (t108), (t109), H', ⟨by first | omega | exact Nat.le_refl _⟩, ⟨by (with_reducible repeat (first | refine blk_drewN ?_ _ | refine blk_drew ?_ | refine blk_alloc ?_ _)); exact BK104.out⟩, ⟨by (with_reducible repeat (first | refine blk_drewN ?_ _ | refine blk_drew ?_ | refine blk_alloc ?_ _)); exact BK105.out⟩, ⟨by (with_reducible repeat (first | refine blk_drewN ?_ _ | refine blk_drew ?_ | refine blk_alloc ?_ _)); exact BK110.out⟩, ⟨by (with_reducible repeat (first | refine blk_drewN ?_ _ | refine blk_drew ?_ | refine blk_alloc ?_ _)); exact BK111.out⟩, ⟨by repeat (first | (with_reducible first | exact HB.out | apply below_alloc | apply pw_below_drewN | apply below_drew1 | refine below_set ?_ GE104.out | refine below_set ?_ GE105.out | refine below_set ?_ GE110.out | refine below_set ?_ GE111.out) | exact HB.out)⟩⟩
  case rest =>
    clear HC6
    try clear c1
    try clear c2
    try clear p2
    try clear c10
    try clear c13
    try clear c23
    try clear c23b0
    try clear c24
    try clear c25
    try clear c26
    try clear c28
    try clear c29
    try clear hcz27_0
    try clear hcz27_1
    try clear hcz30_0
    try clear hcz30_1
    try clear hfz27_0
    try clear hfz27_1
    try clear hfz30_0
    try clear hfz30_1
    obtain ⟨kq, x111000_5, x111001_5, x112000_5, x112001_5, HA, HJ5, BK104, BK105, BK110, BK111, HB⟩ := hcut
    cases kq with
    | zero => exact absurd HA.out (by simp [laws_rgFull.j0])
    | succ kj5 =>
      have H := HA.out
      clear HA
      simp only [laws_rgFull.j0] at H
      replace H := Option.bind_eq_some_iff.mp H
      obtain ⟨t114, A310, H⟩ := H
      replace H : ((spec_RGPlace.f kj5 x112000_5 x112001_5).bind fun t115 => (if t114 = t115 then (some (0, 0, 4, 0)) else (some (x111000_5, x111001_5, x112000_5, x112001_5)))) = some (r1, r2, r3, r4) := H
      have A31 := Aside0.mk A310
      clear A310
      replace H := Option.bind_eq_some_iff.mp H
      obtain ⟨t115, A320, H⟩ := H
      replace H : (if t114 = t115 then (some (0, 0, 4, 0)) else (some (x111000_5, x111001_5, x112000_5, x112001_5))) = some (r1, r2, r3, r4) := H
      have A32 := Aside0.mk A320
      clear A320
      by_cases c33 : t114 = t115
      · rw [if_pos c33] at H
        have c33b0 : (t114 == t115) = true := beq_iff_eq.mpr c33
        have c33b1 : (t114 != t115) = false := bne_eq_false_iff_eq.mpr c33
        clear c33
        simp only [Option.some.injEq, Prod.mk.injEq] at H
        obtain ⟨rfl, rfl, rfl, rfl⟩ := H
        try go_wp2
        have n0_ := Aside0.mk (blk_drew BK104.out)
        have n1_ := Aside0.mk (blk_drew BK105.out)
        have n2_ := Aside0.mk (blk_drew BK110.out)
        have n3_ := Aside0.mk (blk_drew BK111.out)
        have n4_ := Aside0.mk (below_drew1 HB.out)
        clear BK104
        clear BK105
        clear BK110
        clear BK111
        clear HB
        have BK104 := n0_
        have BK105 := n1_
        have BK110 := n2_
        have BK111 := n3_
        have HB := n4_
        clear n0_ n1_ n2_ n3_ n4_
        refine start_ (n := 5) (S := fun w' => w'.cell? ⟨gb110, 0, none⟩ = some (.int .i64 x111000_5) ∧ w'.cell? ⟨gb110, 1, none⟩ = some (.int .i64 x111001_5) ∧ w'.cell? ⟨gb111, 0, none⟩ = some (.int .i64 x112000_5) ∧ w'.cell? ⟨gb111, 1, none⟩ = some (.int .i64 x112001_5)) (ds := []) #[false, false, false, false, false] (by kernel_rfl) rfl rfl ⟨(blk_cell BK110.out 0).trans rfl, (blk_cell BK110.out 1).trans rfl, (blk_cell BK111.out 0).trans rfl, (blk_cell BK111.out 1).trans rfl⟩ (fun hHeld => ?_)
        generalize wc.drew = w34 at BK104 BK105 BK110 BK111 HB hHeld ⊢
        refine take_ (i := 0) (N := some 26) (v := ?_) (a' := ?_) #[true, false, false, false, false] rfl rfl (by kernel_rfl) (fun _ _ _ h => h) (Or.inl ⟨by rfl, ?_⟩) hHeld ?_ ?_
        rotate_left
        · rintro w' ⟨s0, s1, s2, s3⟩
          go_simp
          with_reducible rfl
        rotate_left
        · simp only [Act.put, List.setIfInBounds_toArray, List.set_cons_zero, List.set_cons_succ, i64_w, i32_w]
          rfl
        refine take_ (i := 2) (N := some 28) (v := ?_) (a' := ?_) #[true, false, true, false, false] rfl rfl (by kernel_rfl) (fun _ _ _ h => h) (Or.inl ⟨by rfl, ?_⟩) hHeld ?_ ?_
        rotate_left
        · rintro w' ⟨s0, s1, s2, s3⟩
          go_simp
          with_reducible rfl
        rotate_left
        · simp only [Act.put, List.setIfInBounds_toArray, List.set_cons_zero, List.set_cons_succ, i64_w, i32_w]
          rfl
        refine one_ (i := 1) (N := some 27) #[true, true, true, false, false] rfl rfl (by kernel_rfl) (by decide) (fun K hK => ?_)
        refine goes_ Tryd.func13 (by kernel_rfl) rfl #[.agg #[.int .i64 x111000_5, .int .i64 x111001_5]] (by rfl) rfl rfl (by (try simp only [List.map_toArray, List.map_cons, List.map_nil]); first | done | rfl | (simp only [List.length_drop, List.length_take]; rfl)) ?_
        with_reducible refine (spec_RGPlace.calls kj5 x111000_5 x111001_5 t114 _ A31.out).mono ?_
        rintro e w35 ⟨rfl, hb⟩
        refine ⟨_, rfl, ?_⟩
        have n0_ := Aside0.mk (blk_below (g := gb104) (o := .cells #[.int .i64 a0_0, .int .i64 a0_1, .int .i64 a0_2, .int .i64 a0_3] 44 (0, 0)) (by (with_reducible repeat (first | refine blk_drewN ?_ _ | refine blk_drew ?_ | refine blk_alloc ?_ _)); exact BK104.out) hb)
        have n1_ := Aside0.mk (blk_below (g := gb105) (o := .cells #[.int .i64 0, .int .i64 0, .int .i64 0, .int .i64 0] 44 (0, 0)) (by (with_reducible repeat (first | refine blk_drewN ?_ _ | refine blk_drew ?_ | refine blk_alloc ?_ _)); exact BK105.out) hb)
        have n2_ := Aside0.mk (blk_below (g := gb110) (o := .cells #[.int .i64 x111000_5, .int .i64 x111001_5] 23 (0, 0)) (by (with_reducible repeat (first | refine blk_drewN ?_ _ | refine blk_drew ?_ | refine blk_alloc ?_ _)); exact BK110.out) hb)
        have n3_ := Aside0.mk (blk_below (g := gb111) (o := .cells #[.int .i64 x112000_5, .int .i64 x112001_5] 23 (0, 0)) (by (with_reducible repeat (first | refine blk_drewN ?_ _ | refine blk_drew ?_ | refine blk_alloc ?_ _)); exact BK111.out) hb)
        have n4_ := Aside0.mk (below_step (by repeat (first | (with_reducible first | exact HB.out | apply below_alloc | apply pw_below_drewN | apply below_drew1 | refine below_set ?_ GE104.out | refine below_set ?_ GE105.out | refine below_set ?_ GE110.out | refine below_set ?_ GE111.out) | exact HB.out)) hb)
        clear BK104
        clear BK105
        clear BK110
        clear BK111
        clear HB
        have BK104 := n0_
        have BK105 := n1_
        have BK110 := n2_
        have BK111 := n3_
        have HB := n4_
        clear n0_ n1_ n2_ n3_ n4_
        (try clear hb)
        (try clear hb2)
        (try clear hk)
        (try clear hi)
        refine hK.out _ _ ⟨(blk_cell BK110.out 0).trans rfl, (blk_cell BK110.out 1).trans rfl, (blk_cell BK111.out 0).trans rfl, (blk_cell BK111.out 1).trans rfl⟩ (fun hHeld => ?_)
        clear hK K
        refine norm_ (a' := ?_) ?_ ?_
        rotate_left
        · show Act.put _ (some 27) _ = _
          simp only [Act.put, List.setIfInBounds_toArray, List.set_cons_zero, List.set_cons_succ, i64_w, i32_w]
          rfl
        refine one_ (i := 3) (N := some 29) #[true, true, true, true, false] rfl rfl (by kernel_rfl) (by decide) (fun K hK => ?_)
        refine goes_ Tryd.func13 (by kernel_rfl) rfl #[.agg #[.int .i64 x112000_5, .int .i64 x112001_5]] (by rfl) rfl rfl (by (try simp only [List.map_toArray, List.map_cons, List.map_nil]); first | done | rfl | (simp only [List.length_drop, List.length_take]; rfl)) ?_
        with_reducible refine (spec_RGPlace.calls kj5 x112000_5 x112001_5 t115 _ A32.out).mono ?_
        rintro e w36 ⟨rfl, hb⟩
        refine ⟨_, rfl, ?_⟩
        have n0_ := Aside0.mk (blk_below (g := gb104) (o := .cells #[.int .i64 a0_0, .int .i64 a0_1, .int .i64 a0_2, .int .i64 a0_3] 44 (0, 0)) (by (with_reducible repeat (first | refine blk_drewN ?_ _ | refine blk_drew ?_ | refine blk_alloc ?_ _)); exact BK104.out) hb)
        have n1_ := Aside0.mk (blk_below (g := gb105) (o := .cells #[.int .i64 0, .int .i64 0, .int .i64 0, .int .i64 0] 44 (0, 0)) (by (with_reducible repeat (first | refine blk_drewN ?_ _ | refine blk_drew ?_ | refine blk_alloc ?_ _)); exact BK105.out) hb)
        have n2_ := Aside0.mk (blk_below (g := gb110) (o := .cells #[.int .i64 x111000_5, .int .i64 x111001_5] 23 (0, 0)) (by (with_reducible repeat (first | refine blk_drewN ?_ _ | refine blk_drew ?_ | refine blk_alloc ?_ _)); exact BK110.out) hb)
        have n3_ := Aside0.mk (blk_below (g := gb111) (o := .cells #[.int .i64 x112000_5, .int .i64 x112001_5] 23 (0, 0)) (by (with_reducible repeat (first | refine blk_drewN ?_ _ | refine blk_drew ?_ | refine blk_alloc ?_ _)); exact BK111.out) hb)
        have n4_ := Aside0.mk (below_step (by repeat (first | (with_reducible first | exact HB.out | apply below_alloc | apply pw_below_drewN | apply below_drew1 | refine below_set ?_ GE104.out | refine below_set ?_ GE105.out | refine below_set ?_ GE110.out | refine below_set ?_ GE111.out) | exact HB.out)) hb)
        clear BK104
        clear BK105
        clear BK110
        clear BK111
        clear HB
        have BK104 := n0_
        have BK105 := n1_
        have BK110 := n2_
        have BK111 := n3_
        have HB := n4_
        clear n0_ n1_ n2_ n3_ n4_
        (try clear hb)
        (try clear hb2)
        (try clear hk)
        (try clear hi)
        refine hK.out _ _ ⟨(blk_cell BK110.out 0).trans rfl, (blk_cell BK110.out 1).trans rfl, (blk_cell BK111.out 0).trans rfl, (blk_cell BK111.out 1).trans rfl⟩ (fun hHeld => ?_)
        clear hK K
        refine norm_ (a' := ?_) ?_ ?_
        rotate_left
        · show Act.put _ (some 29) _ = _
          simp only [Act.put, List.setIfInBounds_toArray, List.set_cons_zero, List.set_cons_succ, i64_w, i32_w]
          rfl
        refine pure_ (i := 4) (N := some 30) (v := ?_) (a' := ?_) #[true, true, true, true, true] rfl rfl (by kernel_rfl) (fun _ _ _ h => h) (Or.inl ⟨by rfl, ?_⟩) ?_ ?_
        rotate_left
        · intro w'
          go_simp
          with_reducible rfl
        rotate_left
        · simp only [Act.put, List.setIfInBounds_toArray, List.set_cons_zero, List.set_cons_succ, i64_w, i32_w]
          rfl
        refine done_ (by kernel_rfl) ?_
        have hnb37 := NB105_104.out
        have hnc37 := NB104_105.out
        have hnb38 := NB105_110.out
        have hnc38 := NB110_105.out
        have hnb39 := NB105_111.out
        have hnc39 := NB111_105.out
        have hcz40_0 : w36.cell? ⟨gb105, 0, none⟩ = some (.int .i64 0) := (blk_cell BK105.out 0).trans rfl
        have hcz40_1 : w36.cell? ⟨gb105, 1, none⟩ = some (.int .i64 0) := (blk_cell BK105.out 1).trans rfl
        have hcz40_2 : w36.cell? ⟨gb105, 2, none⟩ = some (.int .i64 0) := (blk_cell BK105.out 2).trans rfl
        have hcz40_3 : w36.cell? ⟨gb105, 3, none⟩ = some (.int .i64 0) := (blk_cell BK105.out 3).trans rfl
        have hfz40_0 := blk_frozen BK105.out 0
        have hfz40_1 := blk_frozen BK105.out 1
        have hfz40_2 := blk_frozen BK105.out 2
        have hfz40_3 := blk_frozen BK105.out 3
        try go_wp2
        refine bodyPost_ret (results_cell_row rfl _ _ gb105 44 #[.int .i64 0, .int .i64 0, .int .i64 4, .int .i64 0] (0, 0) _ rfl (by (with_reducible repeat (first | refine blk_drewN ?_ _ | refine blk_drew ?_ | refine blk_alloc ?_ _)); refine blk_put (cs := #[.int .i64 0, .int .i64 0, .int .i64 4, .int .i64 0]) ?_ 3 _ rfl; (with_reducible repeat (first | refine blk_drewN ?_ _ | refine blk_drew ?_ | refine blk_alloc ?_ _)); refine blk_put (cs := #[.int .i64 0, .int .i64 0, .int .i64 0, .int .i64 0]) ?_ 2 _ rfl; (with_reducible repeat (first | refine blk_drewN ?_ _ | refine blk_drew ?_ | refine blk_alloc ?_ _)); refine blk_put (cs := #[.int .i64 0, .int .i64 0, .int .i64 0, .int .i64 0]) ?_ 1 _ rfl; (with_reducible repeat (first | refine blk_drewN ?_ _ | refine blk_drew ?_ | refine blk_alloc ?_ _)); refine blk_put (cs := #[.int .i64 0, .int .i64 0, .int .i64 0, .int .i64 0]) ?_ 0 _ rfl; (with_reducible repeat (first | refine blk_drewN ?_ _ | refine blk_drew ?_ | refine blk_alloc ?_ _)); exact BK105.out) Tryd.underlying44 rfl (by kernel_rfl)) rfl ?_
        exact ⟨by first | rfl | (simp [errW_none, errW_some] <;> rfl) | (simp [*, errW_none, errW_some] <;> rfl), by repeat (first | (with_reducible first | exact HB.out | apply below_alloc | apply pw_below_drewN | apply below_drew1 | refine below_set ?_ GE104.out | refine below_set ?_ GE105.out | refine below_set ?_ GE110.out | refine below_set ?_ GE111.out) | exact HB.out)⟩
      · rw [if_neg c33] at H
        have c33b0 : (t114 == t115) = false := beq_eq_false_iff_ne.mpr c33
        have c33b1 : (t114 != t115) = true := bne_iff_ne.mpr c33
        simp only [Option.some.injEq, Prod.mk.injEq] at H
        obtain ⟨rfl, rfl, rfl, rfl⟩ := H
        try go_wp2
        have n0_ := Aside0.mk (blk_drew BK104.out)
        have n1_ := Aside0.mk (blk_drew BK105.out)
        have n2_ := Aside0.mk (blk_drew BK110.out)
        have n3_ := Aside0.mk (blk_drew BK111.out)
        have n4_ := Aside0.mk (below_drew1 HB.out)
        clear BK104
        clear BK105
        clear BK110
        clear BK111
        clear HB
        have BK104 := n0_
        have BK105 := n1_
        have BK110 := n2_
        have BK111 := n3_
        have HB := n4_
        clear n0_ n1_ n2_ n3_ n4_
        refine start_ (n := 5) (S := fun w' => w'.cell? ⟨gb110, 0, none⟩ = some (.int .i64 x111000_5) ∧ w'.cell? ⟨gb110, 1, none⟩ = some (.int .i64 x111001_5) ∧ w'.cell? ⟨gb111, 0, none⟩ = some (.int .i64 x112000_5) ∧ w'.cell? ⟨gb111, 1, none⟩ = some (.int .i64 x112001_5)) (ds := []) #[false, false, false, false, false] (by kernel_rfl) rfl rfl ⟨(blk_cell BK110.out 0).trans rfl, (blk_cell BK110.out 1).trans rfl, (blk_cell BK111.out 0).trans rfl, (blk_cell BK111.out 1).trans rfl⟩ (fun hHeld => ?_)
        generalize wc.drew = w41 at BK104 BK105 BK110 BK111 HB hHeld ⊢
        refine take_ (i := 0) (N := some 26) (v := ?_) (a' := ?_) #[true, false, false, false, false] rfl rfl (by kernel_rfl) (fun _ _ _ h => h) (Or.inl ⟨by rfl, ?_⟩) hHeld ?_ ?_
        rotate_left
        · rintro w' ⟨s0, s1, s2, s3⟩
          go_simp
          with_reducible rfl
        rotate_left
        · simp only [Act.put, List.setIfInBounds_toArray, List.set_cons_zero, List.set_cons_succ, i64_w, i32_w]
          rfl
        refine take_ (i := 2) (N := some 28) (v := ?_) (a' := ?_) #[true, false, true, false, false] rfl rfl (by kernel_rfl) (fun _ _ _ h => h) (Or.inl ⟨by rfl, ?_⟩) hHeld ?_ ?_
        rotate_left
        · rintro w' ⟨s0, s1, s2, s3⟩
          go_simp
          with_reducible rfl
        rotate_left
        · simp only [Act.put, List.setIfInBounds_toArray, List.set_cons_zero, List.set_cons_succ, i64_w, i32_w]
          rfl
        refine one_ (i := 1) (N := some 27) #[true, true, true, false, false] rfl rfl (by kernel_rfl) (by decide) (fun K hK => ?_)
        refine goes_ Tryd.func13 (by kernel_rfl) rfl #[.agg #[.int .i64 x111000_5, .int .i64 x111001_5]] (by rfl) rfl rfl (by (try simp only [List.map_toArray, List.map_cons, List.map_nil]); first | done | rfl | (simp only [List.length_drop, List.length_take]; rfl)) ?_
        with_reducible refine (spec_RGPlace.calls kj5 x111000_5 x111001_5 t114 _ A31.out).mono ?_
        rintro e w42 ⟨rfl, hb⟩
        refine ⟨_, rfl, ?_⟩
        have n0_ := Aside0.mk (blk_below (g := gb104) (o := .cells #[.int .i64 a0_0, .int .i64 a0_1, .int .i64 a0_2, .int .i64 a0_3] 44 (0, 0)) (by (with_reducible repeat (first | refine blk_drewN ?_ _ | refine blk_drew ?_ | refine blk_alloc ?_ _)); exact BK104.out) hb)
        have n1_ := Aside0.mk (blk_below (g := gb105) (o := .cells #[.int .i64 0, .int .i64 0, .int .i64 0, .int .i64 0] 44 (0, 0)) (by (with_reducible repeat (first | refine blk_drewN ?_ _ | refine blk_drew ?_ | refine blk_alloc ?_ _)); exact BK105.out) hb)
        have n2_ := Aside0.mk (blk_below (g := gb110) (o := .cells #[.int .i64 x111000_5, .int .i64 x111001_5] 23 (0, 0)) (by (with_reducible repeat (first | refine blk_drewN ?_ _ | refine blk_drew ?_ | refine blk_alloc ?_ _)); exact BK110.out) hb)
        have n3_ := Aside0.mk (blk_below (g := gb111) (o := .cells #[.int .i64 x112000_5, .int .i64 x112001_5] 23 (0, 0)) (by (with_reducible repeat (first | refine blk_drewN ?_ _ | refine blk_drew ?_ | refine blk_alloc ?_ _)); exact BK111.out) hb)
        have n4_ := Aside0.mk (below_step (by repeat (first | (with_reducible first | exact HB.out | apply below_alloc | apply pw_below_drewN | apply below_drew1 | refine below_set ?_ GE104.out | refine below_set ?_ GE105.out | refine below_set ?_ GE110.out | refine below_set ?_ GE111.out) | exact HB.out)) hb)
        clear BK104
        clear BK105
        clear BK110
        clear BK111
        clear HB
        have BK104 := n0_
        have BK105 := n1_
        have BK110 := n2_
        have BK111 := n3_
        have HB := n4_
        clear n0_ n1_ n2_ n3_ n4_
        (try clear hb)
        (try clear hb2)
        (try clear hk)
        (try clear hi)
        refine hK.out _ _ ⟨(blk_cell BK110.out 0).trans rfl, (blk_cell BK110.out 1).trans rfl, (blk_cell BK111.out 0).trans rfl, (blk_cell BK111.out 1).trans rfl⟩ (fun hHeld => ?_)
        clear hK K
        refine norm_ (a' := ?_) ?_ ?_
        rotate_left
        · show Act.put _ (some 27) _ = _
          simp only [Act.put, List.setIfInBounds_toArray, List.set_cons_zero, List.set_cons_succ, i64_w, i32_w]
          rfl
        refine one_ (i := 3) (N := some 29) #[true, true, true, true, false] rfl rfl (by kernel_rfl) (by decide) (fun K hK => ?_)
        refine goes_ Tryd.func13 (by kernel_rfl) rfl #[.agg #[.int .i64 x112000_5, .int .i64 x112001_5]] (by rfl) rfl rfl (by (try simp only [List.map_toArray, List.map_cons, List.map_nil]); first | done | rfl | (simp only [List.length_drop, List.length_take]; rfl)) ?_
        with_reducible refine (spec_RGPlace.calls kj5 x112000_5 x112001_5 t115 _ A32.out).mono ?_
        rintro e w43 ⟨rfl, hb⟩
        refine ⟨_, rfl, ?_⟩
        have n0_ := Aside0.mk (blk_below (g := gb104) (o := .cells #[.int .i64 a0_0, .int .i64 a0_1, .int .i64 a0_2, .int .i64 a0_3] 44 (0, 0)) (by (with_reducible repeat (first | refine blk_drewN ?_ _ | refine blk_drew ?_ | refine blk_alloc ?_ _)); exact BK104.out) hb)
        have n1_ := Aside0.mk (blk_below (g := gb105) (o := .cells #[.int .i64 0, .int .i64 0, .int .i64 0, .int .i64 0] 44 (0, 0)) (by (with_reducible repeat (first | refine blk_drewN ?_ _ | refine blk_drew ?_ | refine blk_alloc ?_ _)); exact BK105.out) hb)
        have n2_ := Aside0.mk (blk_below (g := gb110) (o := .cells #[.int .i64 x111000_5, .int .i64 x111001_5] 23 (0, 0)) (by (with_reducible repeat (first | refine blk_drewN ?_ _ | refine blk_drew ?_ | refine blk_alloc ?_ _)); exact BK110.out) hb)
        have n3_ := Aside0.mk (blk_below (g := gb111) (o := .cells #[.int .i64 x112000_5, .int .i64 x112001_5] 23 (0, 0)) (by (with_reducible repeat (first | refine blk_drewN ?_ _ | refine blk_drew ?_ | refine blk_alloc ?_ _)); exact BK111.out) hb)
        have n4_ := Aside0.mk (below_step (by repeat (first | (with_reducible first | exact HB.out | apply below_alloc | apply pw_below_drewN | apply below_drew1 | refine below_set ?_ GE104.out | refine below_set ?_ GE105.out | refine below_set ?_ GE110.out | refine below_set ?_ GE111.out) | exact HB.out)) hb)
        clear BK104
        clear BK105
        clear BK110
        clear BK111
        clear HB
        have BK104 := n0_
        have BK105 := n1_
        have BK110 := n2_
        have BK111 := n3_
        have HB := n4_
        clear n0_ n1_ n2_ n3_ n4_
        (try clear hb)
        (try clear hb2)
        (try clear hk)
        (try clear hi)
        refine hK.out _ _ ⟨(blk_cell BK110.out 0).trans rfl, (blk_cell BK110.out 1).trans rfl, (blk_cell BK111.out 0).trans rfl, (blk_cell BK111.out 1).trans rfl⟩ (fun hHeld => ?_)
        clear hK K
        refine norm_ (a' := ?_) ?_ ?_
        rotate_left
        · show Act.put _ (some 29) _ = _
          simp only [Act.put, List.setIfInBounds_toArray, List.set_cons_zero, List.set_cons_succ, i64_w, i32_w]
          rfl
        refine pure_ (i := 4) (N := some 30) (v := ?_) (a' := ?_) #[true, true, true, true, true] rfl rfl (by kernel_rfl) (fun _ _ _ h => h) (Or.inl ⟨by rfl, ?_⟩) ?_ ?_
        rotate_left
        · intro w'
          go_simp
          with_reducible rfl
        rotate_left
        · simp only [Act.put, List.setIfInBounds_toArray, List.set_cons_zero, List.set_cons_succ, i64_w, i32_w]
          rfl
        refine done_ (by kernel_rfl) ?_
        have hnb44 := NB110_104.out
        have hnc44 := NB104_110.out
        have hnb45 := NB110_105.out
        have hnc45 := NB105_110.out
        have hnb46 := NB110_111.out
        have hnc46 := NB111_110.out
        have hcz47_0 : w43.cell? ⟨gb110, 0, none⟩ = some (.int .i64 x111000_5) := (blk_cell BK110.out 0).trans rfl
        have hcz47_1 : w43.cell? ⟨gb110, 1, none⟩ = some (.int .i64 x111001_5) := (blk_cell BK110.out 1).trans rfl
        have hfz47_0 := blk_frozen BK110.out 0
        have hfz47_1 := blk_frozen BK110.out 1
        have hnb48 := NB111_104.out
        have hnc48 := NB104_111.out
        have hnb49 := NB111_105.out
        have hnc49 := NB105_111.out
        have hcz50_0 : w43.cell? ⟨gb111, 0, none⟩ = some (.int .i64 x112000_5) := (blk_cell BK111.out 0).trans rfl
        have hcz50_1 : w43.cell? ⟨gb111, 1, none⟩ = some (.int .i64 x112001_5) := (blk_cell BK111.out 1).trans rfl
        have hfz50_0 := blk_frozen BK111.out 0
        have hfz50_1 := blk_frozen BK111.out 1
        have hnb51 := NB105_104.out
        have hnc51 := NB104_105.out
        have hcz52_0 : w43.cell? ⟨gb105, 0, none⟩ = some (.int .i64 0) := (blk_cell BK105.out 0).trans rfl
        have hcz52_1 : w43.cell? ⟨gb105, 1, none⟩ = some (.int .i64 0) := (blk_cell BK105.out 1).trans rfl
        have hcz52_2 : w43.cell? ⟨gb105, 2, none⟩ = some (.int .i64 0) := (blk_cell BK105.out 2).trans rfl
        have hcz52_3 : w43.cell? ⟨gb105, 3, none⟩ = some (.int .i64 0) := (blk_cell BK105.out 3).trans rfl
        have hfz52_0 := blk_frozen BK105.out 0
        have hfz52_1 := blk_frozen BK105.out 1
        have hfz52_2 := blk_frozen BK105.out 2
        have hfz52_3 := blk_frozen BK105.out 3
        try go_wp2
        refine bodyPost_ret (results_cell_row rfl _ _ gb105 44 #[.int .i64 x111000_5, .int .i64 x111001_5, .int .i64 x112000_5, .int .i64 x112001_5] (0, 0) _ rfl (by (with_reducible repeat (first | refine blk_drewN ?_ _ | refine blk_drew ?_ | refine blk_alloc ?_ _)); refine blk_put (cs := #[.int .i64 x111000_5, .int .i64 x111001_5, .int .i64 x112000_5, .int .i64 0]) ?_ 3 _ rfl; (with_reducible repeat (first | refine blk_drewN ?_ _ | refine blk_drew ?_ | refine blk_alloc ?_ _)); refine blk_put (cs := #[.int .i64 x111000_5, .int .i64 x111001_5, .int .i64 0, .int .i64 0]) ?_ 2 _ rfl; (with_reducible repeat (first | refine blk_drewN ?_ _ | refine blk_drew ?_ | refine blk_alloc ?_ _)); refine blk_put (cs := #[.int .i64 x111000_5, .int .i64 0, .int .i64 0, .int .i64 0]) ?_ 1 _ rfl; (with_reducible repeat (first | refine blk_drewN ?_ _ | refine blk_drew ?_ | refine blk_alloc ?_ _)); refine blk_put (cs := #[.int .i64 0, .int .i64 0, .int .i64 0, .int .i64 0]) ?_ 0 _ rfl; (with_reducible repeat (first | refine blk_drewN ?_ _ | refine blk_drew ?_ | refine blk_alloc ?_ _)); exact BK105.out) Tryd.underlying44 rfl (by kernel_rfl)) rfl ?_
        exact ⟨by first | rfl | (simp [errW_none, errW_some] <;> rfl) | (simp [*, errW_none, errW_some] <;> rfl), by repeat (first | (with_reducible first | exact HB.out | apply below_alloc | apply pw_below_drewN | apply below_drew1 | refine below_set ?_ GE104.out | refine below_set ?_ GE105.out | refine below_set ?_ GE110.out | refine below_set ?_ GE111.out) | exact HB.out)⟩

end Go.Proofs.YtlcoodjkolponaaDoor.PRA
