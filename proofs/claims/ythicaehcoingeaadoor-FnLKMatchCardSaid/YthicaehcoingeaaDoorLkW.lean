/-
  A world in which utf8's two tables are laid: the witness of FnLKMatch's row; and the tables' cells out of what is laid.
-/
import Derived.Test.YthicaehcoingeaaDoorCards
import Derived.Test.YthicaehcoingeaaDoorShelfM
import Derived.Test.YthicaehcoingeaaDoorLKw
import Derived.Lib.LaidIn
import Derived.Lib.LaidTab
import Derived.Lib.LaidU8
import Derived.PinnedBridge
import Derived.Deep.DeepWitnessRowRef
namespace Go.Proofs.YthicaehcoingeaaDoor.LkW
open Go Go.Lib Go.Shelf Go.Proofs
set_option maxRecDepth 100000
noncomputable def laidWorld (os : Os) : World :=
  let w0 := World.holding Tryd.prog os ⟨#[], #[], []⟩
  let put (h : Array Obj) (g : Nat) (cs : Array Value) : Array Obj := h.modify g fun
    | .cells _ t frozen => .cells cs t frozen
    | o => o
  let h1 := put w0.heap 6 ((List.range 16).flatMap fun i => [Value.int .u8 (Lib.accLo i), Value.int .u8 (Lib.accHi i)]).toArray
  let h2 := put h1 5 (Lib.firstTab.map fun z => Value.int .u8 z).toArray
  { w0 with heap := h2 }
theorem piece0 (os : Os) (args : Array Value) : LaidIn Tryd.prog ((laidWorld os).forCall (fun _ _ => 0) ⟨#[], args, []⟩).memory [("unicode/utf8.acceptRanges", Rows.laid_unicode_utf8_acceptRanges)] [6] :=
  LaidIn.of_run [6] 8 (by kernel_rfl) (by kernel_rfl) (by kernel_rfl) (by kernel_rfl)
theorem piece3 (os : Os) (args : Array Value) : LaidIn Tryd.prog ((laidWorld os).forCall (fun _ _ => 0) ⟨#[], args, []⟩).memory [("unicode/utf8.first", Lib.firstData)] [5] :=
  LaidIn.of_run [5] 8 (by kernel_rfl) (by kernel_rfl) (by kernel_rfl) (by kernel_rfl)
theorem laid_met (os : Os) (args : Array Value) : laidMet Tryd.prog Rows.fnLKMatchRow.laid ((laidWorld os).forCall (fun _ _ => 0) ⟨#[], args, []⟩).memory := by
  have h := ((piece0 os args).append (piece3 os args) (by kernel_rfl)).met
  rw [← Pinned.utf8First_eq] at h
  exact h
theorem xU : U8Extra Tryd.prog Tryd.lays260_ren := ⟨by kernel_rfl, by kernel_rfl, by kernel_rfl, by kernel_rfl, by kernel_rfl, by kernel_rfl, by kernel_rfl⟩
theorem acc_eq : (Rows.laid_unicode_utf8_acceptRanges : DataW Unit) = acceptData := by kernel_rfl
theorem glob_of_laid {W : World} (h : laidMet Tryd.prog Rows.fnLKMatchRow.laid W) : PLK.Glob W := by
  have h1 : laidMet Tryd.prog [("unicode/utf8.acceptRanges", acceptData), ("unicode/utf8.first", firstData)] W := by
    rw [← acc_eq, ← Pinned.utf8First_eq]
    exact h
  exact utf8Tabs_of_reads Tryd.lays260 xU (laidMet.reads h1 (by simp)) (laidMet.reads h1 (by simp))
end Go.Proofs.YthicaehcoingeaaDoor.LkW
