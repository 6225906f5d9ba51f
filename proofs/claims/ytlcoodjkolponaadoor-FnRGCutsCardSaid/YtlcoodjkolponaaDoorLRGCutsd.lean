-- written by gprint.py, a program of this claim's own, by means of the kit's print
import Derived.Test.YtlcoodjkolponaaDoorPRG0
import Derived.Test.YtlcoodjkolponaaDoorPRG1
import Derived.Test.YtlcoodjkolponaaDoorPRG2
import Derived.Test.YtlcoodjkolponaaDoorRGf
namespace Go.Proofs.YtlcoodjkolponaaDoor.PRG
open Go.RowKit Go.Proofs.YtlcoodjkolponaaDoorW.PrintWords Go.Proofs.YtlcoodjkolponaaDoorW.PrintLast Go.Proofs.YtlcoodjkolponaaDoorW.PrintMore
attribute [local go_sem] max2_int min2_int max_two min_two max_three min_three max_four min_four   -- for this text's walks alone
set_option linter.unusedVariables false
set_option linter.unusedSimpArgs false
attribute [local go_sem high] eqA23
/-! ### laws_FnRGCuts: function 3 -/
mutual
def laws_FnRGCuts.l0 : Nat → List (S23) → Int → Int → Int → Int → Int → Option (Bool)
  | 0, _, _, _, _, _, _ => none
  | k + 1, x7, x10, x119000, x119001, x120000, x120001 => if x10 < 3 then (laws_FnRGCuts.l1 k x7 x10 0 x119000 x119001 x120000 x120001) else ((impl_RGMax.f x7).bind fun bt138 => ((impl_RGMin.f x7).bind fun bt142 => (if bt138.2.2 = true then (if bt142.2.2 = true then (if (bt138.1 == x119000 && (bt138.2.1 == x119001)) = true then (some (bt142.1 == x120000 && (bt142.2.1 == x120001))) else (some false)) else (some false)) else (some false))))
def laws_FnRGCuts.l1 : Nat → List (S23) → Int → Int → Int → Int → Int → Int → Option (Bool)
  | 0, _, _, _, _, _, _, _ => none
  | k + 1, x7, x10, x11, x119000, x119001, x120000, x120001 => if x11 < 3 then (if 0 ≤ x10 then (if x10 < (x7.length : Int) then (if 0 ≤ x11 then (if x11 < (x7.length : Int) then ((impl_RGCompare.f ((rd_T23 x7 x10).f0) ((rd_T23 x7 x10).f1) ((rd_T23 x7 x11).f0) ((rd_T23 x7 x11).f1)).bind fun bt122 => (if bt122.2 = true then ((laws_sign.f bt122.1).bind fun t124 => ((spec_RGPlace.f k ((rd_T23 x7 x10).f0) ((rd_T23 x7 x10).f1)).bind fun t126 => ((spec_RGPlace.f k ((rd_T23 x7 x11).f0) ((rd_T23 x7 x11).f1)).bind fun t128 => ((laws_sign.f (wrap64 (t126 - t128))).bind fun t129 => (if t124 = t129 then (laws_FnRGCuts.l1 k x7 x10 (wrap64 (x11 + 1)) x119000 x119001 x120000 x120001) else (some false)))))) else (some false))) else (none)) else (none)) else (none)) else (none)) else (if 0 ≤ x10 then (if x10 < (x7.length : Int) then ((spec_RGPlace.f k ((rd_T23 x7 x10).f0) ((rd_T23 x7 x10).f1)).bind fun t131 => ((spec_RGPlace.f k x119000 x119001).bind fun t132 => (if t131 > t132 then (laws_FnRGCuts.j2 k x7 x10 ((rd_T23 x7 x10).f0) ((rd_T23 x7 x10).f1) x120000 x120001) else (laws_FnRGCuts.j2 k x7 x10 x119000 x119001 x120000 x120001)))) else (none)) else (none))
def laws_FnRGCuts.j2 : Nat → List (S23) → Int → Int → Int → Int → Int → Option (Bool)
  | 0, _, _, _, _, _, _ => none
  | k + 1, x7, x10, x119000, x119001, x120000, x120001 => if 0 ≤ x10 then (if x10 < (x7.length : Int) then ((spec_RGPlace.f k ((rd_T23 x7 x10).f0) ((rd_T23 x7 x10).f1)).bind fun t135 => ((spec_RGPlace.f k x120000 x120001).bind fun t136 => (if t135 < t136 then (laws_FnRGCuts.l0 k x7 (wrap64 (x10 + 1)) x119000 x119001 ((rd_T23 x7 x10).f0) ((rd_T23 x7 x10).f1)) else (laws_FnRGCuts.l0 k x7 (wrap64 (x10 + 1)) x119000 x119001 x120000 x120001)))) else (none)) else (none)
end
def laws_FnRGCuts.f (k : Nat) (a0_0 : Int) (a0_1 : Int) (a1_0 : Int) (a1_1 : Int) (a2_0 : Int) (a2_1 : Int) : Option (Bool) := (laws_rgCut.f a0_0 a0_1).bind fun bt107 => ((laws_rgCut.f a1_0 a1_1).bind fun bt109 => ((laws_rgCut.f a2_0 a2_1).bind fun bt111 => ((some (([(⟨bt107.1, bt107.2⟩ : S23), (⟨bt109.1, bt109.2⟩ : S23), (⟨bt111.1, bt111.2⟩ : S23)] : List (S23)) : List (S23))).bind fun y113 => (if 0 < (y113.length : Int) then (laws_FnRGCuts.l0 k y113 0 ((rd_T23 y113 0).f0) ((rd_T23 y113 0).f1) ((rd_T23 y113 0).f0) ((rd_T23 y113 0).f1)) else (none)))))
theorem laws_FnRGCuts.mono_l : ∀ k, (∀ y0 y1 y2 y3 y4 y5, LeO (laws_FnRGCuts.l0 k y0 y1 y2 y3 y4 y5) (laws_FnRGCuts.l0 (k + 1) y0 y1 y2 y3 y4 y5)) ∧ (∀ y0 y1 y2 y3 y4 y5 y6, LeO (laws_FnRGCuts.l1 k y0 y1 y2 y3 y4 y5 y6) (laws_FnRGCuts.l1 (k + 1) y0 y1 y2 y3 y4 y5 y6)) ∧ (∀ y0 y1 y2 y3 y4 y5, LeO (laws_FnRGCuts.j2 k y0 y1 y2 y3 y4 y5) (laws_FnRGCuts.j2 (k + 1) y0 y1 y2 y3 y4 y5))
  | 0 => ⟨fun _ _ _ _ _ _ r h => by simp [laws_FnRGCuts.l0] at h, fun _ _ _ _ _ _ _ r h => by simp [laws_FnRGCuts.l1] at h, fun _ _ _ _ _ _ r h => by simp [laws_FnRGCuts.j2] at h⟩
  | k + 1 => by
    obtain ⟨ih0, ih1, ih2⟩ := laws_FnRGCuts.mono_l k
    refine ⟨?_, ?_, ?_⟩
    · intro y0 y1 y2 y3 y4 y5
      unfold laws_FnRGCuts.l0
      repeat' first
      | (with_reducible exact ih0 _ _ _ _ _ _)
      | (with_reducible exact ih1 _ _ _ _ _ _ _)
      | (with_reducible exact ih2 _ _ _ _ _ _)
      | (with_reducible exact spec_RGPlace.mono _ _ _)
      | (with_reducible exact LeO.refl _)
      | (with_reducible exact LeO.none _)
      | (with_reducible refine LeO.ite ?_ ?_)
      | (with_reducible refine LeO.bind ?_ (fun _ => ?_))
      | exact ih0 _ _ _ _ _ _
      | exact ih1 _ _ _ _ _ _ _
      | exact ih2 _ _ _ _ _ _
      | exact spec_RGPlace.mono _ _ _
      | exact LeO.none _
      | refine LeO.ite ?_ ?_
      | refine LeO.bind ?_ (fun _ => ?_)
    · intro y0 y1 y2 y3 y4 y5 y6
      unfold laws_FnRGCuts.l1
      repeat' first
      | (with_reducible exact ih0 _ _ _ _ _ _)
      | (with_reducible exact ih1 _ _ _ _ _ _ _)
      | (with_reducible exact ih2 _ _ _ _ _ _)
      | (with_reducible exact spec_RGPlace.mono _ _ _)
      | (with_reducible exact LeO.refl _)
      | (with_reducible exact LeO.none _)
      | (with_reducible refine LeO.ite ?_ ?_)
      | (with_reducible refine LeO.bind ?_ (fun _ => ?_))
      | exact ih0 _ _ _ _ _ _
      | exact ih1 _ _ _ _ _ _ _
      | exact ih2 _ _ _ _ _ _
      | exact spec_RGPlace.mono _ _ _
      | exact LeO.none _
      | refine LeO.ite ?_ ?_
      | refine LeO.bind ?_ (fun _ => ?_)
    · intro y0 y1 y2 y3 y4 y5
      unfold laws_FnRGCuts.j2
      repeat' first
      | (with_reducible exact ih0 _ _ _ _ _ _)
      | (with_reducible exact ih1 _ _ _ _ _ _ _)
      | (with_reducible exact ih2 _ _ _ _ _ _)
      | (with_reducible exact spec_RGPlace.mono _ _ _)
      | (with_reducible exact LeO.refl _)
      | (with_reducible exact LeO.none _)
      | (with_reducible refine LeO.ite ?_ ?_)
      | (with_reducible refine LeO.bind ?_ (fun _ => ?_))
      | exact ih0 _ _ _ _ _ _
      | exact ih1 _ _ _ _ _ _ _
      | exact ih2 _ _ _ _ _ _
      | exact spec_RGPlace.mono _ _ _
      | exact LeO.none _
      | refine LeO.ite ?_ ?_
      | refine LeO.bind ?_ (fun _ => ?_)
theorem laws_FnRGCuts.mono : ∀ a0 a1 a2 a3 a4 a5 k, LeO (laws_FnRGCuts.f k a0 a1 a2 a3 a4 a5) (laws_FnRGCuts.f (k + 1) a0 a1 a2 a3 a4 a5) := by
  intro a0 a1 a2 a3 a4 a5 k
  obtain ⟨ih0, ih1, ih2⟩ := laws_FnRGCuts.mono_l k
  unfold laws_FnRGCuts.f
  repeat' first
      | (with_reducible exact ih0 _ _ _ _ _ _)
      | (with_reducible exact ih1 _ _ _ _ _ _ _)
      | (with_reducible exact ih2 _ _ _ _ _ _)
      | (with_reducible exact spec_RGPlace.mono _ _ _)
      | (with_reducible exact LeO.refl _)
      | (with_reducible exact LeO.none _)
      | (with_reducible refine LeO.ite ?_ ?_)
      | (with_reducible refine LeO.bind ?_ (fun _ => ?_))
      | exact ih0 _ _ _ _ _ _
      | exact ih1 _ _ _ _ _ _ _
      | exact ih2 _ _ _ _ _ _
      | exact spec_RGPlace.mono _ _ _
      | exact LeO.none _
      | refine LeO.ite ?_ ?_
      | refine LeO.bind ?_ (fun _ => ?_)
def laws_FnRGCuts.T1 : Bool × List (List Nat × List Nat) := (true, [([], []), ([0], [0]), ([], []), ([2], [2]), ([1, 3], [1, 3]), ([], []), ([5], [5]), ([], []), ([7], [7]), ([6, 8, 4], [6, 8]), ([], []), ([10], [10]), ([], []), ([12], [12]), ([11, 13, 9], [11, 13]), ([4, 9, 14], [4, 9, 14]), ([15, 14, 0, 1, 2, 3, 4, 5, 6, 7, 8, 9, 10, 11, 12, 13, 14, 15], [15])])
def laws_FnRGCuts.B1 : List Nat := [0, 1, 0, 4, 15, 0, 32, 0, 128, 511, 0, 1024, 0, 4096, 16383, 32767, 65535]
theorem laws_FnRGCuts.tab1 : rtab .any (opsOf Tryd.f3 1) = laws_FnRGCuts.T1 := by kernel_rfl
theorem laws_FnRGCuts.bits1 : waitsOk laws_FnRGCuts.T1.2 laws_FnRGCuts.B1 = true := by kernel_rfl
def laws_FnRGCuts.T2 : Bool × List (List Nat × List Nat) := (true, [([], []), ([0], [0]), ([1], [1]), ([], []), ([3], [3]), ([4], [4]), ([], []), ([], []), ([6, 2, 0, 1, 2, 6, 7], [2, 6]), ([7, 5, 8, 0, 1, 2, 3, 4, 5, 6, 7, 8], [5, 7])])
def laws_FnRGCuts.B2 : List Nat := [0, 1, 3, 0, 8, 24, 0, 0, 199, 511]
theorem laws_FnRGCuts.tab2 : rtab .any (opsOf Tryd.f3 2) = laws_FnRGCuts.T2 := by kernel_rfl
theorem laws_FnRGCuts.bits2 : waitsOk laws_FnRGCuts.T2.2 laws_FnRGCuts.B2 = true := by kernel_rfl
def laws_FnRGCuts.T9 : Bool × List (List Nat × List Nat) := (true, [([], []), ([], []), ([0, 1], [0, 1]), ([2], [2]), ([], []), ([], []), ([4, 5], [4, 5]), ([6], [6]), ([3, 7], [3, 7]), ([8], [8]), ([9], [9]), ([9], [9]), ([10, 8, 0, 1, 2, 3, 4, 5, 6, 7, 8, 9, 10], [10]), ([11, 12, 0, 1, 2, 3, 4, 5, 6, 7, 8, 9, 10, 11, 12], [11])])
def laws_FnRGCuts.B9 : List Nat := [0, 0, 3, 7, 0, 0, 48, 112, 255, 511, 1023, 1023, 2047, 8191]
theorem laws_FnRGCuts.tab9 : rtab .any (opsOf Tryd.f3 9) = laws_FnRGCuts.T9 := by kernel_rfl
theorem laws_FnRGCuts.bits9 : waitsOk laws_FnRGCuts.T9.2 laws_FnRGCuts.B9 = true := by kernel_rfl
def laws_FnRGCuts.T10 : Bool × List (List Nat × List Nat) := (true, [([], []), ([0], [0]), ([1], [1]), ([2], [2]), ([3, 2, 2], [2, 3]), ([2], [2]), ([2], [2]), ([5, 6, 2], [2, 5, 6]), ([7, 2], [2, 7]), ([8, 4, 2], [2, 8]), ([2], [2]), ([2], [2]), ([10, 11, 2], [2, 10, 11]), ([12, 2], [2, 12]), ([13, 9, 2], [2, 13]), ([9, 14, 2], [2, 9, 14]), ([15, 14, 2], [2, 15]), ([4, 16, 2], [2, 4, 16]), ([2, 17], [2, 17])])
def laws_FnRGCuts.B10 : List Nat := [0, 1, 3, 7, 15, 7, 7, 103, 231, 511, 7, 7, 3079, 7175, 16383, 32767, 65535, 131071, 262143]
theorem laws_FnRGCuts.tab10 : rtab .any (opsOf Tryd.f3 10) = laws_FnRGCuts.T10 := by kernel_rfl
theorem laws_FnRGCuts.bits10 : waitsOk laws_FnRGCuts.T10.2 laws_FnRGCuts.B10 = true := by kernel_rfl
def laws_FnRGCuts.T12 : Bool × List (List Nat × List Nat) := (true, [([], []), ([], []), ([0, 1], [0, 1]), ([2], [2]), ([3], [3]), ([], []), ([5, 4], [5]), ([4, 6], [4, 6])])
def laws_FnRGCuts.B12 : List Nat := [0, 0, 3, 7, 15, 0, 63, 127]
theorem laws_FnRGCuts.tab12 : rtab .any (opsOf Tryd.f3 12) = laws_FnRGCuts.T12 := by kernel_rfl
theorem laws_FnRGCuts.bits12 : waitsOk laws_FnRGCuts.T12.2 laws_FnRGCuts.B12 = true := by kernel_rfl
def laws_FnRGCuts.T14 : Bool × List (List Nat × List Nat) := (true, [([], []), ([], []), ([0, 1], [0, 1]), ([2], [2]), ([3], [3]), ([], []), ([5, 4], [5]), ([4, 6], [4, 6])])
def laws_FnRGCuts.B14 : List Nat := [0, 0, 3, 7, 15, 0, 63, 127]
theorem laws_FnRGCuts.tab14 : rtab .any (opsOf Tryd.f3 14) = laws_FnRGCuts.T14 := by kernel_rfl
theorem laws_FnRGCuts.bits14 : waitsOk laws_FnRGCuts.T14.2 laws_FnRGCuts.B14 = true := by kernel_rfl

end Go.Proofs.YtlcoodjkolponaaDoor.PRG
