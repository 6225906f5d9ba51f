/-
  A world in which math/bits' table is laid: the witness of the sets' rows; and the table's cells out of what is laid. No condition.
-/
import Derived.Test.YtoeapddecmhlkaaGreatDoorCards
import Derived.Test.YtoeapddecmhlkaaGreatDoorFDg
import Derived.Lib.LaidIn
import Derived.Lib.LaidTab
import Derived.PinnedBridge
import Derived.Deep.DeepWitnessRowRef
namespace Go.Proofs.YtoeapddecmhlkaaGreatDoor.FDW
open Go Go.Lib Go.Proofs
set_option maxRecDepth 100000
def bruijnL : List Int := Lib.deBruijn64tab.map fun n : Nat => (n : Int)
noncomputable def laidWorld (os : Os) : World :=
  { World.holding Tryz.prog os ⟨#[], #[], []⟩ with heap := (World.holding Tryz.prog os ⟨#[], #[], []⟩).heap.modify 0 fun | .cells _ t frozen => .cells (bruijnL.map (Value.int .u8)).toArray t frozen | o => o }
theorem met (os : Os) (args : Array Value) : laidMet Tryz.prog [("math/bits.deBruijn64tab", Rows.laid_math_bits_deBruijn64tab)] ((laidWorld os).forCall (fun _ _ => 0) ⟨#[], args, []⟩).memory :=
  laidMet_of_run' 8 (by kernel_rfl) (by kernel_rfl)
theorem glob {W : World} (h : laidMet Tryz.prog [("math/bits.deBruijn64tab", Rows.laid_math_bits_deBruijn64tab)] W) : FD.Glob W := by
  have hL' : laidMet Tryz.prog (("math/bits.deBruijn64tab", Lib.tabData .u8 bruijnL) :: []) W := h
  have hT := Lib.tabIs_of_head (g := 0) (t := 126) (e := 5) (n := 64) (by kernel_rfl) (by kernel_rfl) (by kernel_rfl) (by kernel_rfl) (by kernel_rfl) (by kernel_rfl) hL'
  intro i hi
  have hc := hT.cell (g := 0) (by kernel_rfl) i (by simpa [bruijnL] using hi)
  rw [hc]
  have : bruijnL.getD i 0 = ((Lib.deBruijn64tab.getD i 0 : Nat) : Int) := by
    unfold bruijnL
    rw [List.getD_eq_getElem?_getD, List.getD_eq_getElem?_getD, List.getElem?_map, List.getElem?_eq_getElem hi]
    rfl
  rw [this]
theorem u8_nat {u : Int} (h : (Lit.int .u8 u).wf = true) : ∃ n : Nat, u = (n : Int) ∧ n ≤ 255 := by
  have h2 : 0 ≤ u ∧ u ≤ 255 := by
    simp only [Lit.wf, Bool.and_eq_true, decide_eq_true_eq] at h
    have h1 : IntKind.u8.min = 0 := by decide
    have h2 : IntKind.u8.max = 255 := by decide
    omega
  exact ⟨u.toNat, by omega, by omega⟩
end Go.Proofs.YtoeapddecmhlkaaGreatDoor.FDW
