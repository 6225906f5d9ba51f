-- written by gprint.py, a program of this claim's own, by means of the kit's print
import Derived.Test.YtlcoodjkolponaaDoorPRR0
import Derived.Test.YtlcoodjkolponaaDoorPRR1
import Derived.Test.YtlcoodjkolponaaDoorPRR2
import Derived.Test.YtlcoodjkolponaaDoorPRR4
import Derived.Test.YtlcoodjkolponaaDoorRRg
namespace Go.Proofs.YtlcoodjkolponaaDoor.PRR
open Go.RowKit Go.Proofs.YtlcoodjkolponaaDoorW.PrintWords Go.Proofs.YtlcoodjkolponaaDoorW.PrintLast Go.Proofs.YtlcoodjkolponaaDoorW.PrintMore
attribute [local go_sem] max2_int min2_int max_two min_two max_three min_three max_four min_four   -- for this text's walks alone
set_option linter.unusedVariables false
set_option linter.unusedSimpArgs false
/-! ### spec_RRMeet: function 44 -/
def spec_RRMeet.l0 : Nat → List (S44) → List (S44) → List (S44) → Int → Option ((List (S44)))
  | 0, _, _, _, _ => none
  | k + 1, x0, x1, x5, x6 => if x6 < (x0.length : Int) then (if x6 < (x1.length : Int) then (if 0 ≤ x6 then ((spec_RGMeet.f k ((rd_T44 x0 x6).f0.f0) ((rd_T44 x0 x6).f0.f1) ((rd_T44 x0 x6).f1.f0) ((rd_T44 x0 x6).f1.f1) ((rd_T44 x1 x6).f0.f0) ((rd_T44 x1 x6).f0.f1) ((rd_T44 x1 x6).f1.f0) ((rd_T44 x1 x6).f1.f1)).bind fun bt155 => (if x5.length < 4398046511104 then (spec_RRMeet.l0 k x0 x1 (x5 ++ [(⟨(⟨bt155.1, bt155.2.1⟩ : S23), (⟨bt155.2.2.1, bt155.2.2.2⟩ : S23)⟩ : S44)]) (wrap64 (x6 + 1))) else (none))) else (none)) else (some x5)) else (some x5)
def spec_RRMeet.f (k : Nat) (l0 : List (S44)) (l1 : List (S44)) : Option ((List (S44))) := spec_RRMeet.l0 k l0 l1 ([] : List (S44)) 0
theorem spec_RRMeet.mono_l : ∀ k, (∀ y0 y1 y2 y3, LeO (spec_RRMeet.l0 k y0 y1 y2 y3) (spec_RRMeet.l0 (k + 1) y0 y1 y2 y3))
  | 0 => fun _ _ _ _ r h => by simp [spec_RRMeet.l0] at h
  | k + 1 => by
    have ih0 := spec_RRMeet.mono_l k
    · intro y0 y1 y2 y3
      unfold spec_RRMeet.l0
      repeat' first
      | (with_reducible exact ih0 _ _ _ _)
      | (with_reducible exact spec_RGMeet.mono _ _ _ _ _ _ _ _ _)
      | (with_reducible exact LeO.refl _)
      | (with_reducible exact LeO.none _)
      | (with_reducible refine LeO.ite ?_ ?_)
      | (with_reducible refine LeO.bind ?_ (fun _ => ?_))
      | exact ih0 _ _ _ _
      | exact spec_RGMeet.mono _ _ _ _ _ _ _ _ _
      | exact LeO.none _
      | refine LeO.ite ?_ ?_
      | refine LeO.bind ?_ (fun _ => ?_)
theorem spec_RRMeet.mono : ∀ a0 a1 k, LeO (spec_RRMeet.f k a0 a1) (spec_RRMeet.f (k + 1) a0 a1) := by
  intro a0 a1 k
  have ih0 := spec_RRMeet.mono_l k
  unfold spec_RRMeet.f
  repeat' first
      | (with_reducible exact ih0 _ _ _ _)
      | (with_reducible exact spec_RGMeet.mono _ _ _ _ _ _ _ _ _)
      | (with_reducible exact LeO.refl _)
      | (with_reducible exact LeO.none _)
      | (with_reducible refine LeO.ite ?_ ?_)
      | (with_reducible refine LeO.bind ?_ (fun _ => ?_))
      | exact ih0 _ _ _ _
      | exact spec_RGMeet.mono _ _ _ _ _ _ _ _ _
      | exact LeO.none _
      | refine LeO.ite ?_ ?_
      | refine LeO.bind ?_ (fun _ => ?_)
def spec_RRMeet.T5 : Bool × List (List Nat × List Nat) := (true, [([], []), ([], []), ([], []), ([1, 2], [1, 2]), ([3], [3]), ([], []), ([], []), ([5, 6], [5, 6]), ([7], [7]), ([4, 8], [4, 8]), ([9], [9]), ([0, 10, 9], [0, 10]), ([11, 11, 0, 1, 2, 3, 4, 5, 6, 7, 8, 9, 10, 11], [0, 11])])
def spec_RRMeet.B5 : List Nat := [0, 0, 0, 6, 14, 0, 0, 96, 224, 510, 1022, 2047, 4095]
theorem spec_RRMeet.tab5 : rtab .any (opsOf Tryd.f44 5) = spec_RRMeet.T5 := by kernel_rfl
theorem spec_RRMeet.bits5 : waitsOk spec_RRMeet.T5.2 spec_RRMeet.B5 = true := by kernel_rfl

end Go.Proofs.YtlcoodjkolponaaDoor.PRR
