/-
  What impl.RGCompare, RGMax and RGMin answer, in the form in which the printed texts ask for it. RGMax and RGMin: from 1 to 1000 positions.
-/
import Derived.Test.YtlcoodjkolponaaDoorRGe
namespace Go.Proofs.YtlcoodjkolponaaDoor.PRG
open Go.RowKit Go.Proofs.YtlcoodjkolponaaDoorW.PrintWords Go.Proofs.YtlcoodjkolponaaDoorW.PrintLast Go.Proofs.YtlcoodjkolponaaDoorW.PrintMore

def impl_RGCompare.f (a0_0 a0_1 a1_0 a1_1 : Int) : Option (Int × Bool) := some (cmpC (C.of a0_0 a0_1) (C.of a1_0 a1_1), true)
theorem impl_RGCompare.calls (a0_0 : Int) (a0_1 : Int) (a1_0 : Int) (a1_1 : Int) (r1 : Int) (r2 : Bool) (w : World) (h : impl_RGCompare.f a0_0 a0_1 a1_0 a1_1 = some (r1, r2)) :
    Calls Tryd.prog 11 #[.agg #[.int .i64 a0_0, .int .i64 a0_1], .agg #[.int .i64 a1_0, .int .i64 a1_1]] w fun e w' => e = .returned (.tuple #[.int .i64 r1, .bool r2]) ∧ Below w.heap.size w w' := by
  simp only [impl_RGCompare.f, Option.some.injEq, Prod.mk.injEq] at h
  obtain ⟨rfl, rfl⟩ := h
  exact RGCompare_ok a0_0 a0_1 a1_0 a1_1 w

def impl_RGMax.f (l0 : List S23) : Option (Int × Int × Bool) := if 0 < l0.length ∧ l0.length ≤ 1000 then some ((mostC (-1) (l0.map cutOfS)).kind, (mostC (-1) (l0.map cutOfS)).key, true) else none
theorem impl_RGMax.calls (A0 : Option Addr) (c0 : Nat) (l0 : List S23) (r1 : Int) (r2 : Int) (r3 : Bool) (w : World) (hr0 : Kd.C k23 w A0 l0.length l0) (_hc0 : l0.length ≤ c0) (h : impl_RGMax.f l0 = some (r1, r2, r3)) :
    Calls Tryd.prog 14 #[.slice A0 l0.length c0] w fun e w' => e = .returned (.tuple #[.agg #[.int .i64 r1, .int .i64 r2], .bool r3]) ∧ Below w.heap.size w w' := by
  unfold impl_RGMax.f at h
  split at h
  · rename_i hc
    simp only [Option.some.injEq, Prod.mk.injEq] at h
    obtain ⟨rfl, rfl, rfl⟩ := h
    exact RGMax_ok A0 c0 l0 w hr0 hc.2 hc.1
  · cases h

def impl_RGMin.f (l0 : List S23) : Option (Int × Int × Bool) := if 0 < l0.length ∧ l0.length ≤ 1000 then some ((mostC 1 (l0.map cutOfS)).kind, (mostC 1 (l0.map cutOfS)).key, true) else none
theorem impl_RGMin.calls (A0 : Option Addr) (c0 : Nat) (l0 : List S23) (r1 : Int) (r2 : Int) (r3 : Bool) (w : World) (hr0 : Kd.C k23 w A0 l0.length l0) (_hc0 : l0.length ≤ c0) (h : impl_RGMin.f l0 = some (r1, r2, r3)) :
    Calls Tryd.prog 15 #[.slice A0 l0.length c0] w fun e w' => e = .returned (.tuple #[.agg #[.int .i64 r1, .int .i64 r2], .bool r3]) ∧ Below w.heap.size w w' := by
  unfold impl_RGMin.f at h
  split at h
  · rename_i hc
    simp only [Option.some.injEq, Prod.mk.injEq] at h
    obtain ⟨rfl, rfl, rfl⟩ := h
    exact RGMin_ok A0 c0 l0 w hr0 hc.2 hc.1
  · cases h
end Go.Proofs.YtlcoodjkolponaaDoor.PRG
