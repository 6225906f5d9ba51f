/-
  What impl.RGEquals, RGSubset, RGSuperset, RGConnected and RGEmpty answer, in the form in which the printed texts of the key RA ask for it. No condition.
-/
import Derived.Test.YtlcoodjkolponaaDoorRGc
namespace Go.Proofs.YtlcoodjkolponaaDoor.PRA
open Go.RowKit
open Go.Proofs.YtlcoodjkolponaaDoor.PRG (C cmpC)

def impl_RGEquals.f (a0_0 a0_1 a0_2 a0_3 a1_0 a1_1 a1_2 a1_3 : Int) : Option (Bool × Bool) := some ((cmpC (C.of a0_0 a0_1) (C.of a1_0 a1_1) == 0 && cmpC (C.of a0_2 a0_3) (C.of a1_2 a1_3) == 0), true)
theorem impl_RGEquals.calls (a0_0 a0_1 a0_2 a0_3 a1_0 a1_1 a1_2 a1_3 : Int) (r1 : Bool) (r2 : Bool) (w : World) (h : impl_RGEquals.f a0_0 a0_1 a0_2 a0_3 a1_0 a1_1 a1_2 a1_3 = some (r1, r2)) :
    Calls Tryd.prog 22 #[.agg #[.int .i64 a0_0, .int .i64 a0_1, .int .i64 a0_2, .int .i64 a0_3], .agg #[.int .i64 a1_0, .int .i64 a1_1, .int .i64 a1_2, .int .i64 a1_3]] w fun e w' => e = .returned (.tuple #[.bool r1, .bool r2]) ∧ Below w.heap.size w w' := by
  simp only [impl_RGEquals.f, Option.some.injEq, Prod.mk.injEq] at h
  obtain ⟨h1, rfl⟩ := h
  exact PRG.RGEquals_ok a0_0 a0_1 a0_2 a0_3 a1_0 a1_1 a1_2 a1_3 r1 h1 w

def impl_RGSubset.f (a0_0 a0_1 a0_2 a0_3 a1_0 a1_1 a1_2 a1_3 : Int) : Option (Bool × Bool) := some ((!(cmpC (C.of a0_0 a0_1) (C.of a1_0 a1_1) == -1) && !(cmpC (C.of a0_2 a0_3) (C.of a1_2 a1_3) == 1)), true)
theorem impl_RGSubset.calls (a0_0 a0_1 a0_2 a0_3 a1_0 a1_1 a1_2 a1_3 : Int) (r1 : Bool) (r2 : Bool) (w : World) (h : impl_RGSubset.f a0_0 a0_1 a0_2 a0_3 a1_0 a1_1 a1_2 a1_3 = some (r1, r2)) :
    Calls Tryd.prog 23 #[.agg #[.int .i64 a0_0, .int .i64 a0_1, .int .i64 a0_2, .int .i64 a0_3], .agg #[.int .i64 a1_0, .int .i64 a1_1, .int .i64 a1_2, .int .i64 a1_3]] w fun e w' => e = .returned (.tuple #[.bool r1, .bool r2]) ∧ Below w.heap.size w w' := by
  simp only [impl_RGSubset.f, Option.some.injEq, Prod.mk.injEq] at h
  obtain ⟨h1, rfl⟩ := h
  exact PRG.RGSubset_ok a0_0 a0_1 a0_2 a0_3 a1_0 a1_1 a1_2 a1_3 r1 h1 w

def impl_RGSuperset.f (a0_0 a0_1 a0_2 a0_3 a1_0 a1_1 a1_2 a1_3 : Int) : Option (Bool × Bool) := some ((!(cmpC (C.of a1_0 a1_1) (C.of a0_0 a0_1) == -1) && !(cmpC (C.of a1_2 a1_3) (C.of a0_2 a0_3) == 1)), true)
theorem impl_RGSuperset.calls (a0_0 a0_1 a0_2 a0_3 a1_0 a1_1 a1_2 a1_3 : Int) (r1 : Bool) (r2 : Bool) (w : World) (h : impl_RGSuperset.f a0_0 a0_1 a0_2 a0_3 a1_0 a1_1 a1_2 a1_3 = some (r1, r2)) :
    Calls Tryd.prog 24 #[.agg #[.int .i64 a0_0, .int .i64 a0_1, .int .i64 a0_2, .int .i64 a0_3], .agg #[.int .i64 a1_0, .int .i64 a1_1, .int .i64 a1_2, .int .i64 a1_3]] w fun e w' => e = .returned (.tuple #[.bool r1, .bool r2]) ∧ Below w.heap.size w w' := by
  simp only [impl_RGSuperset.f, Option.some.injEq, Prod.mk.injEq] at h
  obtain ⟨h1, rfl⟩ := h
  exact PRG.RGSuperset_ok a0_0 a0_1 a0_2 a0_3 a1_0 a1_1 a1_2 a1_3 r1 h1 w

def impl_RGConnected.f (a0_0 a0_1 a0_2 a0_3 a1_0 a1_1 a1_2 a1_3 : Int) : Option (Bool × Bool) := some ((!decide (0 < cmpC (C.of a0_0 a0_1) (C.of a1_2 a1_3)) && decide (cmpC (C.of a1_0 a1_1) (C.of a0_2 a0_3) ≤ 0)), true)
theorem impl_RGConnected.calls (a0_0 a0_1 a0_2 a0_3 a1_0 a1_1 a1_2 a1_3 : Int) (r1 : Bool) (r2 : Bool) (w : World) (h : impl_RGConnected.f a0_0 a0_1 a0_2 a0_3 a1_0 a1_1 a1_2 a1_3 = some (r1, r2)) :
    Calls Tryd.prog 25 #[.agg #[.int .i64 a0_0, .int .i64 a0_1, .int .i64 a0_2, .int .i64 a0_3], .agg #[.int .i64 a1_0, .int .i64 a1_1, .int .i64 a1_2, .int .i64 a1_3]] w fun e w' => e = .returned (.tuple #[.bool r1, .bool r2]) ∧ Below w.heap.size w w' := by
  simp only [impl_RGConnected.f, Option.some.injEq, Prod.mk.injEq] at h
  obtain ⟨h1, rfl⟩ := h
  exact PRG.RGConnected_ok a0_0 a0_1 a0_2 a0_3 a1_0 a1_1 a1_2 a1_3 r1 h1 w

def impl_RGEmpty.f (a0_0 a0_1 a0_2 a0_3 : Int) : Option (Bool × Bool) := some (decide (0 ≤ cmpC (C.of a0_0 a0_1) (C.of a0_2 a0_3)), true)
theorem impl_RGEmpty.calls (a0_0 a0_1 a0_2 a0_3 : Int) (r1 : Bool) (r2 : Bool) (w : World) (h : impl_RGEmpty.f a0_0 a0_1 a0_2 a0_3 = some (r1, r2)) :
    Calls Tryd.prog 26 #[.agg #[.int .i64 a0_0, .int .i64 a0_1, .int .i64 a0_2, .int .i64 a0_3]] w fun e w' => e = .returned (.tuple #[.bool r1, .bool r2]) ∧ Below w.heap.size w w' := by
  simp only [impl_RGEmpty.f, Option.some.injEq, Prod.mk.injEq] at h
  obtain ⟨h1, rfl⟩ := h
  exact PRG.RGEmpty_ok a0_0 a0_1 a0_2 a0_3 r1 h1 w
end Go.Proofs.YtlcoodjkolponaaDoor.PRA
