-- written by gprint.py, a program of this claim's own, by means of the kit's print
import Derived.Test.YtlcoodjkolponaaDoorPRU0
import Derived.Test.YtlcoodjkolponaaDoorPRU1
namespace Go.Proofs.YtlcoodjkolponaaDoor.PRU
open Go.RowKit Go.Proofs.YtlcoodjkolponaaDoorW.PrintWords Go.Proofs.YtlcoodjkolponaaDoorW.PrintLast Go.Proofs.YtlcoodjkolponaaDoorW.PrintMore
attribute [local go_sem] max2_int min2_int max_two min_two max_three min_three max_four min_four   -- for this text's walks alone
set_option linter.unusedVariables false
set_option linter.unusedSimpArgs false
/-! ### spec_RGHull: function 31 -/
def spec_RGHull.j0 : Nat → Int → Int → Int → Int → Int → Int → Int → Int → Option (Int × Int × Int × Int)
  | 0, _, _, _, _, _, _, _, _ => none
  | k + 1, x137000, x137001, x137002, x137003, x138000, x138001, x138002, x138003 => (spec_RGPlace.f k x138002 x138003).bind fun t141 => ((spec_RGPlace.f k x137002 x137003).bind fun t142 => (if t141 > t142 then (some (x137000, x137001, x138002, x138003)) else (some (x137000, x137001, x137002, x137003))))
def spec_RGHull.f (k : Nat) (a0_0 : Int) (a0_1 : Int) (a0_2 : Int) (a0_3 : Int) (a1_0 : Int) (a1_1 : Int) (a1_2 : Int) (a1_3 : Int) : Option (Int × Int × Int × Int) := (spec_RGPlace.f k a1_0 a1_1).bind fun t139 => ((spec_RGPlace.f k a0_0 a0_1).bind fun t140 => (if t139 < t140 then (spec_RGHull.j0 k a1_0 a1_1 a0_2 a0_3 a1_0 a1_1 a1_2 a1_3) else (spec_RGHull.j0 k a0_0 a0_1 a0_2 a0_3 a1_0 a1_1 a1_2 a1_3)))
theorem spec_RGHull.mono_l : ∀ k, (∀ y0 y1 y2 y3 y4 y5 y6 y7, LeO (spec_RGHull.j0 k y0 y1 y2 y3 y4 y5 y6 y7) (spec_RGHull.j0 (k + 1) y0 y1 y2 y3 y4 y5 y6 y7))
  | 0 => fun _ _ _ _ _ _ _ _ r h => by simp [spec_RGHull.j0] at h
  | k + 1 => by
    have ih0 := spec_RGHull.mono_l k
    · intro y0 y1 y2 y3 y4 y5 y6 y7
      unfold spec_RGHull.j0
      repeat' first
      | (with_reducible exact ih0 _ _ _ _ _ _ _ _)
      | (with_reducible exact spec_RGPlace.mono _ _ _)
      | (with_reducible exact LeO.refl _)
      | (with_reducible exact LeO.none _)
      | (with_reducible refine LeO.ite ?_ ?_)
      | (with_reducible refine LeO.bind ?_ (fun _ => ?_))
      | exact ih0 _ _ _ _ _ _ _ _
      | exact spec_RGPlace.mono _ _ _
      | exact LeO.none _
      | refine LeO.ite ?_ ?_
      | refine LeO.bind ?_ (fun _ => ?_)
theorem spec_RGHull.mono : ∀ a0 a1 a2 a3 a4 a5 a6 a7 k, LeO (spec_RGHull.f k a0 a1 a2 a3 a4 a5 a6 a7) (spec_RGHull.f (k + 1) a0 a1 a2 a3 a4 a5 a6 a7) := by
  intro a0 a1 a2 a3 a4 a5 a6 a7 k
  have ih0 := spec_RGHull.mono_l k
  unfold spec_RGHull.f
  repeat' first
      | (with_reducible exact ih0 _ _ _ _ _ _ _ _)
      | (with_reducible exact spec_RGPlace.mono _ _ _)
      | (with_reducible exact LeO.refl _)
      | (with_reducible exact LeO.none _)
      | (with_reducible refine LeO.ite ?_ ?_)
      | (with_reducible refine LeO.bind ?_ (fun _ => ?_))
      | exact ih0 _ _ _ _ _ _ _ _
      | exact spec_RGPlace.mono _ _ _
      | exact LeO.none _
      | refine LeO.ite ?_ ?_
      | refine LeO.bind ?_ (fun _ => ?_)

end Go.Proofs.YtlcoodjkolponaaDoor.PRU
