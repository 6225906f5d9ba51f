/-
  What impl.RGUnion answers of two ranges with values, in the form in which the printed texts of the key RU ask for it.
-/
import Derived.Test.YtlcoodjkolponaaDoorPRU0
import Derived.Test.YtlcoodjkolponaaDoorRGum
import Derived.Test.YtlcoodjkolponaaDoorRGux
namespace Go.Proofs.YtlcoodjkolponaaDoor.PRU
open Go.RowKit
open Go.Proofs.YtlcoodjkolponaaDoor.PRG (C cmpC loC hiC)

/-- None, where one of the two has no values. -/
def impl_RGUnion.f (a0_0 a0_1 a0_2 a0_3 a1_0 a1_1 a1_2 a1_3 : Int) : Option (Int × Int × Int × Int × Bool × Bool) :=
  if 0 ≤ cmpC (C.of a0_0 a0_1) (C.of a0_2 a0_3) then none else if 0 ≤ cmpC (C.of a1_0 a1_1) (C.of a1_2 a1_3) then none
  else if (!decide (0 < cmpC (C.of a0_0 a0_1) (C.of a1_2 a1_3)) && decide (cmpC (C.of a1_0 a1_1) (C.of a0_2 a0_3) ≤ 0)) = true
  then some ((loC (C.of a0_0 a0_1) (C.of a1_0 a1_1)).kind, (loC (C.of a0_0 a0_1) (C.of a1_0 a1_1)).key, (hiC (C.of a0_2 a0_3) (C.of a1_2 a1_3)).kind, (hiC (C.of a0_2 a0_3) (C.of a1_2 a1_3)).key, true, true)
  else some (0, 0, 0, 0, false, true)
theorem impl_RGUnion.calls (a0_0 a0_1 a0_2 a0_3 a1_0 a1_1 a1_2 a1_3 : Int) (r1 r2 r3 r4 : Int) (r5 r6 : Bool) (w : World) (h : impl_RGUnion.f a0_0 a0_1 a0_2 a0_3 a1_0 a1_1 a1_2 a1_3 = some (r1, r2, r3, r4, r5, r6)) :
    Calls Tryd.prog 30 #[.agg #[.int .i64 a0_0, .int .i64 a0_1, .int .i64 a0_2, .int .i64 a0_3], .agg #[.int .i64 a1_0, .int .i64 a1_1, .int .i64 a1_2, .int .i64 a1_3]] w fun e w' => e = .returned (.tuple #[.agg #[.int .i64 r1, .int .i64 r2, .int .i64 r3, .int .i64 r4], .bool r5, .bool r6]) ∧ Below w.heap.size w w' := by
  unfold impl_RGUnion.f at h
  split at h
  · cases h
  · rename_i ha
    split at h
    · cases h
    · rename_i hc
      split at h
      · rename_i hq
        simp only [Option.some.injEq, Prod.mk.injEq] at h
        obtain ⟨rfl, rfl, rfl, rfl, rfl, rfl⟩ := h
        exact PRG.RGUnion_yes a0_0 a0_1 a0_2 a0_3 a1_0 a1_1 a1_2 a1_3 ha hc hq w
      · rename_i hq
        simp only [Option.some.injEq, Prod.mk.injEq] at h
        obtain ⟨rfl, rfl, rfl, rfl, rfl, rfl⟩ := h
        exact PRG.RGUnion_no a0_0 a0_1 a0_2 a0_3 a1_0 a1_1 a1_2 a1_3 ha hc (by simpa using hq) w
end Go.Proofs.YtlcoodjkolponaaDoor.PRU
