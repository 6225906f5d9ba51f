-- written by gprint.py, a program of this claim's own, by means of the kit's print
import Derived.Test.YtlcoodjkolponaaDoorPRR0
import Derived.Test.YtlcoodjkolponaaDoorPRR1
import Derived.Test.YtlcoodjkolponaaDoorPRR2
namespace Go.Proofs.YtlcoodjkolponaaDoor.PRR
open Go.RowKit Go.Proofs.YtlcoodjkolponaaDoorW.PrintWords Go.Proofs.YtlcoodjkolponaaDoorW.PrintLast Go.Proofs.YtlcoodjkolponaaDoorW.PrintMore
attribute [local go_sem] max2_int min2_int max_two min_two max_three min_three max_four min_four   -- for this text's walks alone
set_option linter.unusedVariables false
set_option linter.unusedSimpArgs false
/-! ### laws_rgFull: function 21 -/
def laws_rgFull.j0 : Nat → Int → Int → Int → Int → Option (Int × Int × Int × Int)
  | 0, _, _, _, _ => none
  | k + 1, x132000, x132001, x133000, x133001 => (spec_RGPlace.f k x132000 x132001).bind fun t135 => ((spec_RGPlace.f k x133000 x133001).bind fun t136 => (if t135 = t136 then (some (0, 0, 4, 0)) else (some (x132000, x132001, x133000, x133001))))
def laws_rgFull.f (k : Nat) (a0_0 : Int) (a0_1 : Int) (a0_2 : Int) (a0_3 : Int) : Option (Int × Int × Int × Int) := (laws_rgCut.f a0_0 a0_1).bind fun bt127 => ((laws_rgCut.f a0_2 a0_3).bind fun bt129 => ((spec_RGPlace.f k bt127.1 bt127.2).bind fun t133 => ((spec_RGPlace.f k bt129.1 bt129.2).bind fun t134 => (if t133 > t134 then (laws_rgFull.j0 k bt129.1 bt129.2 bt127.1 bt127.2) else (laws_rgFull.j0 k bt127.1 bt127.2 bt129.1 bt129.2)))))
theorem laws_rgFull.mono_l : ∀ k, (∀ y0 y1 y2 y3, LeO (laws_rgFull.j0 k y0 y1 y2 y3) (laws_rgFull.j0 (k + 1) y0 y1 y2 y3))
  | 0 => fun _ _ _ _ r h => by simp [laws_rgFull.j0] at h
  | k + 1 => by
    have ih0 := laws_rgFull.mono_l k
    · intro y0 y1 y2 y3
      unfold laws_rgFull.j0
      repeat' first
      | (with_reducible exact ih0 _ _ _ _)
      | (with_reducible exact spec_RGPlace.mono _ _ _)
      | (with_reducible exact LeO.refl _)
      | (with_reducible exact LeO.none _)
      | (with_reducible refine LeO.ite ?_ ?_)
      | (with_reducible refine LeO.bind ?_ (fun _ => ?_))
      | exact ih0 _ _ _ _
      | exact spec_RGPlace.mono _ _ _
      | exact LeO.none _
      | refine LeO.ite ?_ ?_
      | refine LeO.bind ?_ (fun _ => ?_)
theorem laws_rgFull.mono : ∀ a0 a1 a2 a3 k, LeO (laws_rgFull.f k a0 a1 a2 a3) (laws_rgFull.f (k + 1) a0 a1 a2 a3) := by
  intro a0 a1 a2 a3 k
  have ih0 := laws_rgFull.mono_l k
  unfold laws_rgFull.f
  repeat' first
      | (with_reducible exact ih0 _ _ _ _)
      | (with_reducible exact spec_RGPlace.mono _ _ _)
      | (with_reducible exact LeO.refl _)
      | (with_reducible exact LeO.none _)
      | (with_reducible refine LeO.ite ?_ ?_)
      | (with_reducible refine LeO.bind ?_ (fun _ => ?_))
      | exact ih0 _ _ _ _
      | exact spec_RGPlace.mono _ _ _
      | exact LeO.none _
      | refine LeO.ite ?_ ?_
      | refine LeO.bind ?_ (fun _ => ?_)
def laws_rgFull.T1 : Bool × List (List Nat × List Nat) := (true, [([], []), ([0], [0]), ([1], [1]), ([], []), ([3], [3]), ([4], [4]), ([2, 5], [2, 5]), ([], []), ([7], [7]), ([8], [8]), ([], []), ([10], [10]), ([11], [11]), ([9, 12, 6], [9, 12]), ([], []), ([], []), ([14, 6, 13, 0, 1, 2, 3, 4, 5, 6, 14, 15], [6, 14]), ([15, 13, 16, 0, 1, 2, 3, 4, 5, 6, 7, 8, 9, 10, 11, 12, 13, 14, 15, 16], [13, 15])])
def laws_rgFull.B1 : List Nat := [0, 1, 3, 0, 8, 24, 63, 0, 128, 384, 0, 1024, 3072, 8191, 0, 0, 65535, 131071]
theorem laws_rgFull.tab1 : rtab .any (opsOf Tryd.f21 1) = laws_rgFull.T1 := by kernel_rfl
theorem laws_rgFull.bits1 : waitsOk laws_rgFull.T1.2 laws_rgFull.B1 = true := by kernel_rfl

end Go.Proofs.YtlcoodjkolponaaDoor.PRR
