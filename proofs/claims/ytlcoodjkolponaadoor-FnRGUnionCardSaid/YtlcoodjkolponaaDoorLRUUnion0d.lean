-- written by gprint.py, a program of this claim's own, by means of the kit's print
import Derived.Test.YtlcoodjkolponaaDoorPRU0
import Derived.Test.YtlcoodjkolponaaDoorLRUFullc
import Derived.Test.YtlcoodjkolponaaDoorPRU3
import Derived.Test.YtlcoodjkolponaaDoorLRUHullc
import Derived.Test.YtlcoodjkolponaaDoorRVg
namespace Go.Proofs.YtlcoodjkolponaaDoor.PRU
open Go.RowKit Go.Proofs.YtlcoodjkolponaaDoorW.PrintWords Go.Proofs.YtlcoodjkolponaaDoorW.PrintLast Go.Proofs.YtlcoodjkolponaaDoorW.PrintMore
attribute [local go_sem] max2_int min2_int max_two min_two max_three min_three max_four min_four   -- for this text's walks alone
set_option linter.unusedVariables false
set_option linter.unusedSimpArgs false
/-! ### laws_FnRGUnion: function 6 -/
def laws_FnRGUnion.f (k : Nat) (a0_0 : Int) (a0_1 : Int) (a0_2 : Int) (a0_3 : Int) (a1_0 : Int) (a1_1 : Int) (a1_2 : Int) (a1_3 : Int) : Option (Bool) := (laws_rgFull.f k a0_0 a0_1 a0_2 a0_3).bind fun bt145 => ((laws_rgFull.f k a1_0 a1_1 a1_2 a1_3).bind fun bt149 => ((impl_RGUnion.f bt145.1 bt145.2.1 bt145.2.2.1 bt145.2.2.2 bt149.1 bt149.2.1 bt149.2.2.1 bt149.2.2.2).bind fun bt155 => ((impl_RGUnion.f bt145.1 bt145.2.1 bt145.2.2.1 bt145.2.2.2 bt145.1 bt145.2.1 bt145.2.2.1 bt145.2.2.2).bind fun bt162 => (if bt155.2.2.2.2.2 = true then (if bt162.2.2.2.2.2 = true then ((spec_RGTouch.f k bt145.1 bt145.2.1 bt145.2.2.1 bt145.2.2.2 bt149.1 bt149.2.1 bt149.2.2.1 bt149.2.2.2).bind fun t169 => (if (bt155.2.2.2.2.1 == t169) = true then (if bt155.2.2.2.2.1 = true then ((spec_RGHull.f k bt145.1 bt145.2.1 bt145.2.2.1 bt145.2.2.2 bt149.1 bt149.2.1 bt149.2.2.1 bt149.2.2.2).bind fun bt170 => ((spec_RGSame.f k bt155.1 bt155.2.1 bt155.2.2.1 bt155.2.2.2.1 bt170.1 bt170.2.1 bt170.2.2.1 bt170.2.2.2).bind fun t174 => (if t174 = true then (if bt162.2.2.2.2.1 = true then ((spec_RGSame.f k bt162.1 bt162.2.1 bt162.2.2.1 bt162.2.2.2.1 bt145.1 bt145.2.1 bt145.2.2.1 bt145.2.2.2).bind fun t175 => (some t175)) else (some false)) else (some false)))) else (if bt162.2.2.2.2.1 = true then ((spec_RGSame.f k bt162.1 bt162.2.1 bt162.2.2.1 bt162.2.2.2.1 bt145.1 bt145.2.1 bt145.2.2.1 bt145.2.2.2).bind fun t176 => (some t176)) else (some false))) else (some false))) else (some false)) else (some false)))))
theorem laws_FnRGUnion.mono : ∀ a0 a1 a2 a3 a4 a5 a6 a7 k, LeO (laws_FnRGUnion.f k a0 a1 a2 a3 a4 a5 a6 a7) (laws_FnRGUnion.f (k + 1) a0 a1 a2 a3 a4 a5 a6 a7) := by
  intro a0 a1 a2 a3 a4 a5 a6 a7 k
  unfold laws_FnRGUnion.f
  repeat' first
      | (with_reducible exact laws_rgFull.mono _ _ _ _ _)
      | (with_reducible exact spec_RGHull.mono _ _ _ _ _ _ _ _ _)
      | (with_reducible exact spec_RGSame.mono _ _ _ _ _ _ _ _ _)
      | (with_reducible exact spec_RGTouch.mono _ _ _ _ _ _ _ _ _)
      | (with_reducible exact LeO.refl _)
      | (with_reducible exact LeO.none _)
      | (with_reducible refine LeO.ite ?_ ?_)
      | (with_reducible refine LeO.bind ?_ (fun _ => ?_))
      | exact laws_rgFull.mono _ _ _ _ _
      | exact spec_RGHull.mono _ _ _ _ _ _ _ _ _
      | exact spec_RGSame.mono _ _ _ _ _ _ _ _ _
      | exact spec_RGTouch.mono _ _ _ _ _ _ _ _ _
      | exact LeO.none _
      | refine LeO.ite ?_ ?_
      | refine LeO.bind ?_ (fun _ => ?_)
def laws_FnRGUnion.T1 : Bool × List (List Nat × List Nat) := (true, [([], []), ([0], [0]), ([], []), ([2, 1], [2]), ([], []), ([], []), ([4, 1, 3, 0, 1, 4, 5], [1, 4]), ([5, 3, 6, 0, 1, 2, 3, 4, 5, 6], [3, 5])])
def laws_FnRGUnion.B1 : List Nat := [0, 1, 0, 7, 0, 0, 63, 127]
theorem laws_FnRGUnion.tab1 : rtab .any (opsOf Tryd.f6 1) = laws_FnRGUnion.T1 := by kernel_rfl
theorem laws_FnRGUnion.bits1 : waitsOk laws_FnRGUnion.T1.2 laws_FnRGUnion.B1 = true := by kernel_rfl
def laws_FnRGUnion.T4 : Bool × List (List Nat × List Nat) := (true, [([], []), ([0], [0]), ([1], [1]), ([1, 2], [1, 2]), ([3, 1], [3]), ([4], [4]), ([4], [4]), ([4], [4]), ([6, 7, 4, 4], [4, 6, 7]), ([5, 8, 4], [4, 5, 8]), ([4, 9], [4, 9]), ([10, 8], [10]), ([11], [11]), ([12, 11], [11, 12]), ([13, 11, 11], [11, 13]), ([14], [14]), ([14], [14]), ([14], [14]), ([16, 17, 14, 14], [14, 16, 17]), ([15, 18, 18, 14], [14, 15, 18]), ([14, 19, 11], [11, 14, 19]), ([11, 20], [11, 20]), ([21, 19], [21]), ([22], [22]), ([22, 23], [22, 23]), ([24, 22], [24]), ([25], [25]), ([25], [25]), ([26, 27, 25, 25], [25, 26, 27]), ([25, 28], [25, 28]), ([29, 28, 0, 1, 2, 3, 4, 5, 6, 7, 8, 9, 10, 11, 12, 13, 14, 15, 16, 17, 18, 19, 20, 21, 22, 23, 24, 25, 26, 27, 28, 29], [29])])
def laws_FnRGUnion.B4 : List Nat := [0, 1, 3, 7, 15, 31, 31, 31, 223, 511, 1023, 2047, 4095, 8191, 16383, 32767, 32767, 32767, 229375, 524287, 1048575, 2097151, 4194303, 8388607, 16777215, 33554431, 67108863, 67108863, 268435455, 536870911, 1073741823]
theorem laws_FnRGUnion.tab4 : rtab .any (opsOf Tryd.f6 4) = laws_FnRGUnion.T4 := by kernel_rfl
theorem laws_FnRGUnion.bits4 : waitsOk laws_FnRGUnion.T4.2 laws_FnRGUnion.B4 = true := by kernel_rfl

end Go.Proofs.YtlcoodjkolponaaDoor.PRU
