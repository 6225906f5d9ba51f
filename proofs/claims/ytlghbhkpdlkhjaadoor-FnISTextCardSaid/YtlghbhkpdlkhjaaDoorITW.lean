/-
  A world in which the variables that FnISText lists are laid: the witness of its row; and the tables' cells out of what is laid. No condition.
-/
import Derived.Test.YtlghbhkpdlkhjaaDoorISW
import Derived.Test.YtlghbhkpdlkhjaaDoorITd
namespace Go.Proofs.YtlghbhkpdlkhjaaDoor.ITW
open Go Go.Lib Go.Proofs
set_option maxRecDepth 100000
def bruijn32 : List Int := [0, 1, 28, 2, 29, 14, 24, 3, 30, 22, 20, 15, 25, 17, 4, 8, 31, 27, 13, 23, 21, 19, 16, 7, 26, 12, 18, 6, 11, 5, 10, 9]
noncomputable def laidWorld (os : Os) : World :=
  let N := (World.settled Tryd.prog os).heap.size
  let w0 := World.holding Tryd.prog os ⟨#[.cells #[.string (⟨#[98, 121, 116, 101, 115, 46, 66, 117, 102, 102, 101, 114, 58, 32, 116, 111, 111, 32, 108, 97, 114, 103, 101]⟩ : ByteArray)] 145], #[], []⟩
  let put (h : Array Obj) (g : Nat) (cs : Array Value) : Array Obj := h.modify g fun
    | .cells _ t frozen => .cells cs t frozen
    | o => o
  let h1 := put w0.heap 0 (ISW.bruijnL.map (Value.int .u8)).toArray
  let h2 := put h1 3 (bruijn32.map (Value.int .u8)).toArray
  let h3 := put h2 2 (Lib.pow10Tab.map (Value.int .u64)).toArray
  let h4 := put h3 1 #[.iface 128 (.pointer (some ⟨N, 0, none⟩))]
  { w0 with heap := h4 }
theorem met (os : Os) (args : Array Value) : laidMet Tryd.prog Rows.fnISTextRow.laid ((laidWorld os).forCall (fun _ _ => 0) ⟨#[], args, []⟩).memory :=
  laidMet_of_run' 8 (by kernel_rfl) (by kernel_rfl)
theorem of_tab {W : World} (hT : Lib.TabIs Tryd.prog W "math/bits.deBruijn64tab" .u8 ISW.bruijnL) : PIS.Glob W := by
  intro i hi
  have hc := hT.cell (g := 0) (by kernel_rfl) i (by simpa [ISW.bruijnL] using hi)
  rw [hc]
  have : ISW.bruijnL.getD i 0 = ((Lib.deBruijn64tab.getD i 0 : Nat) : Int) := by
    unfold ISW.bruijnL
    rw [List.getD_eq_getElem?_getD, List.getD_eq_getElem?_getD, List.getElem?_map, List.getElem?_eq_getElem hi]
    rfl
  rw [this]
theorem glob {W : World} (h : laidMet Tryd.prog Rows.fnISTextRow.laid W) : PIT.Glob W := by
  obtain ⟨ps, ⟨g0, t0, cs0, f0, p0, q0, hg0, ht0, hv0, hd0, ⟨g1, t1, cs1, f1, p1, q1, hg1, ht1, hv1, hd1, ⟨g2, t2, cs2, f2, p2, q2, hg2, ht2, hv2, hd2, _, _⟩, _⟩, _⟩, _⟩ := h
  obtain rfl := Option.some.inj ((show Tryd.prog.globalNamed "math/bits.deBruijn64tab" = some 0 by kernel_rfl).symm.trans hg1)
  obtain rfl := Option.some.inj ((show (Tryd.prog.globals[0]?).map (·.type) = some 115 by kernel_rfl).symm.trans ht1)
  have hd1' : DataW.trod (fun _ => ()) Tryd.prog W 0 (fun _ => true) false f1 115 cs1.toList = some (Lib.tabData .u8 ISW.bruijnL, p1) := by rw [hd1]; kernel_rfl
  obtain rfl := Option.some.inj ((show Tryd.prog.globalNamed "internal/strconv.uint64pow10" = some 2 by kernel_rfl).symm.trans hg2)
  obtain rfl := Option.some.inj ((show (Tryd.prog.globals[2]?).map (·.type) = some 123 by kernel_rfl).symm.trans ht2)
  have hd2' : DataW.trod (fun _ => ()) Tryd.prog W 0 (fun _ => true) false f2 123 cs2.toList = some (Lib.tabData .u64 Lib.pow10Tab, p2) := by rw [hd2]; kernel_rfl
  have e1 := Lib.cells_of_tab (n := 64) Tryd.underlying115 Tryd.underlying5 (by kernel_rfl) (by kernel_rfl) hd1'
  have e2 := Lib.cells_of_tab (n := 20) Tryd.underlying123 Tryd.underlying43 (by kernel_rfl) (by kernel_rfl) hd2'
  refine ⟨?_, ?_⟩
  · have hT : Lib.TabIs Tryd.prog W "math/bits.deBruijn64tab" .u8 ISW.bruijnL := by unfold Lib.TabIs; rw [hv1, ← e1]
    exact of_tab hT
  · unfold PIS.Pow10 Lib.TabIs
    rw [hv2, ← e2]
end Go.Proofs.YtlghbhkpdlkhjaaDoor.ITW
