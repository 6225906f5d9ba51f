-- written by gprint.py, a program of this claim's own, by means of the kit's print
import Derived.Test.YtlcoodjkolponaaDoorPRA0
import Derived.Test.YtlcoodjkolponaaDoorPRA2
import Derived.Test.YtlcoodjkolponaaDoorPRA3
import Derived.Test.YtlcoodjkolponaaDoorPRA4
import Derived.Test.YtlcoodjkolponaaDoorRAg
namespace Go.Proofs.YtlcoodjkolponaaDoor.PRA
open Go.RowKit Go.Proofs.YtlcoodjkolponaaDoorW.PrintWords Go.Proofs.YtlcoodjkolponaaDoorW.PrintLast Go.Proofs.YtlcoodjkolponaaDoorW.PrintMore
attribute [local go_sem] max2_int min2_int max_two min_two max_three min_three max_four min_four   -- for this text's walks alone
set_option linter.unusedVariables false
set_option linter.unusedSimpArgs false
/-! ### laws_FnRGAsks: function 5 -/
def laws_FnRGAsks.f (k : Nat) (a0_0 : Int) (a0_1 : Int) (a0_2 : Int) (a0_3 : Int) (a1_0 : Int) (a1_1 : Int) (a1_2 : Int) (a1_3 : Int) : Option (Bool) := (laws_rgFull.f k a0_0 a0_1 a0_2 a0_3).bind fun bt153 => ((laws_rgFull.f k a1_0 a1_1 a1_2 a1_3).bind fun bt157 => ((impl_RGEquals.f bt153.1 bt153.2.1 bt153.2.2.1 bt153.2.2.2 bt157.1 bt157.2.1 bt157.2.2.1 bt157.2.2.2).bind fun bt163 => ((impl_RGSubset.f bt153.1 bt153.2.1 bt153.2.2.1 bt153.2.2.2 bt157.1 bt157.2.1 bt157.2.2.1 bt157.2.2.2).bind fun bt165 => ((impl_RGSuperset.f bt153.1 bt153.2.1 bt153.2.2.1 bt153.2.2.2 bt157.1 bt157.2.1 bt157.2.2.1 bt157.2.2.2).bind fun bt167 => ((impl_RGConnected.f bt153.1 bt153.2.1 bt153.2.2.1 bt153.2.2.2 bt157.1 bt157.2.1 bt157.2.2.1 bt157.2.2.2).bind fun bt169 => ((impl_RGEmpty.f bt153.1 bt153.2.1 bt153.2.2.1 bt153.2.2.2).bind fun bt171 => ((impl_RGEquals.f bt153.1 bt153.2.1 bt153.2.2.1 bt153.2.2.2 bt153.1 bt153.2.1 bt153.2.2.1 bt153.2.2.2).bind fun bt173 => (if bt163.2 = true then (if bt165.2 = true then (if bt167.2 = true then (if bt169.2 = true then (if bt171.2 = true then (if bt173.2 = true then ((spec_RGSame.f k bt153.1 bt153.2.1 bt153.2.2.1 bt153.2.2.2 bt157.1 bt157.2.1 bt157.2.2.1 bt157.2.2.2).bind fun t175 => (if (bt163.1 == t175) = true then ((spec_RGUnder.f k bt153.1 bt153.2.1 bt153.2.2.1 bt153.2.2.2 bt157.1 bt157.2.1 bt157.2.2.1 bt157.2.2.2).bind fun t176 => (if (bt165.1 == t176) = true then ((spec_RGUnder.f k bt157.1 bt157.2.1 bt157.2.2.1 bt157.2.2.2 bt153.1 bt153.2.1 bt153.2.2.1 bt153.2.2.2).bind fun t177 => (if (bt167.1 == t177) = true then ((spec_RGTouch.f k bt153.1 bt153.2.1 bt153.2.2.1 bt153.2.2.2 bt157.1 bt157.2.1 bt157.2.2.1 bt157.2.2.2).bind fun t178 => (if (bt169.1 == t178) = true then (if bt171.1 = true then (some false) else (some bt173.1)) else (some false))) else (some false))) else (some false))) else (some false))) else (some false)) else (some false)) else (some false)) else (some false)) else (some false)) else (some false)))))))))
theorem laws_FnRGAsks.mono : ∀ a0 a1 a2 a3 a4 a5 a6 a7 k, LeO (laws_FnRGAsks.f k a0 a1 a2 a3 a4 a5 a6 a7) (laws_FnRGAsks.f (k + 1) a0 a1 a2 a3 a4 a5 a6 a7) := by
  intro a0 a1 a2 a3 a4 a5 a6 a7 k
  unfold laws_FnRGAsks.f
  repeat' first
      | (with_reducible exact laws_rgFull.mono _ _ _ _ _)
      | (with_reducible exact spec_RGSame.mono _ _ _ _ _ _ _ _ _)
      | (with_reducible exact spec_RGTouch.mono _ _ _ _ _ _ _ _ _)
      | (with_reducible exact spec_RGUnder.mono _ _ _ _ _ _ _ _ _)
      | (with_reducible exact LeO.refl _)
      | (with_reducible exact LeO.none _)
      | (with_reducible refine LeO.ite ?_ ?_)
      | (with_reducible refine LeO.bind ?_ (fun _ => ?_))
      | exact laws_rgFull.mono _ _ _ _ _
      | exact spec_RGSame.mono _ _ _ _ _ _ _ _ _
      | exact spec_RGTouch.mono _ _ _ _ _ _ _ _ _
      | exact spec_RGUnder.mono _ _ _ _ _ _ _ _ _
      | exact LeO.none _
      | refine LeO.ite ?_ ?_
      | refine LeO.bind ?_ (fun _ => ?_)
def laws_FnRGAsks.T1 : Bool × List (List Nat × List Nat) := (true, [([], []), ([0], [0]), ([], []), ([2, 1], [2]), ([], []), ([], []), ([4, 1, 3, 0, 1, 4, 5], [1, 4]), ([5, 3, 6, 0, 1, 2, 3, 4, 5, 6], [3, 5])])
def laws_FnRGAsks.B1 : List Nat := [0, 1, 0, 7, 0, 0, 63, 127]
theorem laws_FnRGAsks.tab1 : rtab .any (opsOf Tryd.f5 1) = laws_FnRGAsks.T1 := by kernel_rfl
theorem laws_FnRGAsks.bits1 : waitsOk laws_FnRGAsks.T1.2 laws_FnRGAsks.B1 = true := by kernel_rfl

end Go.Proofs.YtlcoodjkolponaaDoor.PRA
