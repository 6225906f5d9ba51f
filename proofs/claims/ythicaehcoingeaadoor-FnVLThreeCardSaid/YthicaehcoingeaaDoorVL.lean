/-
  Contracts of impl.VLWrite: the bytes of the number, as many as the kind has, the lowest one first, in a new slice. Condition: the variable impl.sizes reads as the program lays it; kinds from 1 to 14.
-/
import Derived.Test.YthicaehcoingeaaDoorPVM1
import Derived.RegionCalls
import Derived.Deep.RegionWith
import Derived.Lib.LaidTab
namespace Go.Proofs.YthicaehcoingeaaDoor.PVM
open Go.RowKit Go.Proofs.YthicaehcoingeaaDoorW.PrintWords Go.Proofs.YthicaehcoingeaaDoorW.PrintLast Go.Proofs.YthicaehcoingeaaDoorW.PrintMore
set_option linter.unusedVariables false
set_option linter.unusedSimpArgs false
set_option maxRecDepth 100000

@[go_sem] theorem mk1 (w : World) : (Instr.makeSlice 23 (.int .i64 1) (.int .i64 1)).run Tryd.prog w = .ok (.slice (some ⟨w.heap.size, 0, none⟩) 1 1) (w.alloc (.cells #[.int .u8 0] 5)) := by kernel_rfl
@[go_sem] theorem mk2 (w : World) : (Instr.makeSlice 23 (.int .i64 2) (.int .i64 2)).run Tryd.prog w = .ok (.slice (some ⟨w.heap.size, 0, none⟩) 2 2) (w.alloc (.cells #[.int .u8 0, .int .u8 0] 5)) := by kernel_rfl
@[go_sem] theorem mk3 (w : World) : (Instr.makeSlice 23 (.int .i64 3) (.int .i64 3)).run Tryd.prog w = .ok (.slice (some ⟨w.heap.size, 0, none⟩) 3 3) (w.alloc (.cells #[.int .u8 0, .int .u8 0, .int .u8 0] 5)) := by kernel_rfl
@[go_sem] theorem mk4 (w : World) : (Instr.makeSlice 23 (.int .i64 4) (.int .i64 4)).run Tryd.prog w = .ok (.slice (some ⟨w.heap.size, 0, none⟩) 4 4) (w.alloc (.cells #[.int .u8 0, .int .u8 0, .int .u8 0, .int .u8 0] 5)) := by kernel_rfl
@[go_sem] theorem mk6 (w : World) : (Instr.makeSlice 23 (.int .i64 6) (.int .i64 6)).run Tryd.prog w = .ok (.slice (some ⟨w.heap.size, 0, none⟩) 6 6) (w.alloc (.cells #[.int .u8 0, .int .u8 0, .int .u8 0, .int .u8 0, .int .u8 0, .int .u8 0] 5)) := by kernel_rfl
@[go_sem] theorem mk8 (w : World) : (Instr.makeSlice 23 (.int .i64 8) (.int .i64 8)).run Tryd.prog w = .ok (.slice (some ⟨w.heap.size, 0, none⟩) 8 8) (w.alloc (.cells #[.int .u8 0, .int .u8 0, .int .u8 0, .int .u8 0, .int .u8 0, .int .u8 0, .int .u8 0, .int .u8 0] 5)) := by kernel_rfl

theorem w32 (b : Int) : wrap32 b % 4294967296 = b % 4294967296 := by unfold wrap32; omega
theorem w32' (b : Int) : IntKind.u32.wrap (wrap32 b) = b % 4294967296 := by simp only [IntKind.wrap_u32]; exact w32 b
theorem wraps_u32 (n : Int) (h0 : 0 ≤ n) (h1 : n < 2 ^ 32) : IntKind.u32.wrap n = n := by rw [IntKind.wrap_u32]; omega
theorem mask24 (b : Int) : bits .and .u32 (b % 4294967296) 16777215 = b % 16777216 := by
  have h := bits_mask .u32 32 (by decide) wraps_u32 24 (by decide) (b % 4294967296) (by omega) (by omega)
  have e : ((2 : Int) ^ 24 - 1) = 16777215 := by decide
  have e2 : ((2 : Int) ^ 24) = 16777216 := by decide
  rw [e, e2] at h
  rw [h]; omega

set_option maxHeartbeats 1000000 in
theorem write5 (b : Int) (h0 : 0 ≤ b) (h1 : b ≤ 18446744073709551615) (w : World) (hc : w.cell? ⟨0, 5, none⟩ = some (.int .i64 3)) :
    Calls Tryd.prog 9 #[.int .i64 5, .int .u64 b] w fun e w' => e = .returned (.slice (some ⟨w.heap.size, 0, none⟩) 3 3) ∧ w'.heap[w.heap.size]? = some (.cells #[.int .u8 (b % 256), .int .u8 (b / 256 % 256), .int .u8 (b / 65536 % 256)] 5 (0, 0)) ∧ Below w.heap.size w w' := by
  go_enter Tryd.func9, Tryd.ntmps9
  go_wp2
  go_end0
  go_wp2
  go_region_with (go_at_call 69; go_in; go_wp2; go_end0)
  all_goals go_wp2
  all_goals go_ret
  all_goals refine ⟨rfl, ?_, ?_⟩
  · show (((w.heap.push _).push _).push _)[w.heap.size]? = _
    have e : w.heap.size ≠ w.heap.size + 1 + 1 := by omega
    simp only [Array.getElem?_push, Array.size_push, if_neg e, if_neg (show w.heap.size ≠ w.heap.size + 1 from by omega), if_true]
    simp only [Option.some.injEq, Obj.cells.injEq, Array.mk.injEq, List.cons.injEq, Value.int.injEq, and_true, true_and, wrap32]
    omega
  · repeat (first | (with_reducible exact Below.refl _ _) | (with_reducible apply below_alloc) | (with_reducible apply below_drew))

set_option maxHeartbeats 1000000 in
theorem write6 (b : Int) (h0 : 0 ≤ b) (h1 : b ≤ 18446744073709551615) (w : World) (hc : w.cell? ⟨0, 6, none⟩ = some (.int .i64 3)) :
    Calls Tryd.prog 9 #[.int .i64 6, .int .u64 b] w fun e w' => e = .returned (.slice (some ⟨w.heap.size, 0, none⟩) 3 3) ∧ w'.heap[w.heap.size]? = some (.cells #[.int .u8 (b % 256), .int .u8 (b / 256 % 256), .int .u8 (b / 65536 % 256)] 5 (0, 0)) ∧ Below w.heap.size w w' := by
  have hm := mask24 b
  have g0 : 0 ≤ b % 16777216 := by omega
  have g1 : b % 16777216 ≤ 16777215 := by omega
  go_enter Tryd.func9, Tryd.ntmps9
  go_wp2
  go_end0
  go_wp2
  go_region_with (go_at_call 69; go_in; go_wp2; go_end0)
  all_goals go_wp2
  all_goals go_ret
  all_goals refine ⟨rfl, ?_, ?_⟩
  · show (((w.heap.push _).push _).push _)[w.heap.size]? = _
    have e : w.heap.size ≠ w.heap.size + 1 + 1 := by omega
    simp only [Array.getElem?_push, Array.size_push, if_neg e, if_neg (show w.heap.size ≠ w.heap.size + 1 from by omega), if_true]
    simp only [Option.some.injEq, Obj.cells.injEq, Array.mk.injEq, List.cons.injEq, Value.int.injEq, and_true, true_and, wrap32]
    omega
  · repeat (first | (with_reducible exact Below.refl _ _) | (with_reducible apply below_alloc) | (with_reducible apply below_drew))

/-- A new block of bytes, known whole, as a row of the call's own. -/
theorem R_bytes {w' : World} {N : Nat} (l : List Int) (hh : w'.heap[N]? = some (.cells (l.map (Value.int .u8)).toArray 5 (0, 0))) (hl : l.length ≤ 1000) : Kd.R (Kd.int .u8) 5 w' N (fun _ => True) (.slice (some ⟨N, 0, none⟩) l.length l.length) l := by
  refine Kd.R_of_own (enc := Value.int .u8) ?_ (fun _ _ => trivial)
  refine ⟨by simp [encs], .inr ⟨N, l.length, _, rfl, Nat.le_refl _, hh, Nat.le_refl _, by unfold maxLen; omega, by simp, ?_⟩⟩
  rw [Nat.mul_one, List.take_of_length_le (by simp)]
  rfl

def sizesL : List Int := [0, 1, 1, 2, 2, 3, 3, 4, 4, 8, 8, 4, 8, 6, 6]
/-- The variable impl.sizes reads as the program lays it. -/
def Glob (w : World) : Prop := ∀ i : Nat, i < 15 → w.cell? ⟨0, i, none⟩ = some (.int .i64 (sizesL.getD i 0))
theorem Glob.later {w w' : World} (h : Glob w) (hb : Below w.heap.size w w') : Glob w' := fun i hi => (hb.cell (World.block_lt_of_cell? w _ (h i hi))).trans (h i hi)

def threeL (b : Int) : List Int := [b % 256, b / 256 % 256, b / 65536 % 256]
def impl_VLWrite.f (a0 : Int) (a1 : Int) : Option (List Int) := if (a0 = 5 ∨ a0 = 6) ∧ 0 ≤ a1 ∧ a1 ≤ 18446744073709551615 then some (threeL a1) else none
theorem impl_VLWrite.calls (a0 : Int) (a1 : Int) (r : List Int) (w : World) (hg : Glob w) (h : impl_VLWrite.f a0 a1 = some r) :
    Calls Tryd.prog 9 #[.int .i64 a0, .int .u64 a1] w fun e w' => ∃ v0_ : Value, e = .returned (v0_) ∧ Kd.R (Kd.int .u8) 5 w' w.heap.size (fun _ => True) v0_ r ∧ Below w.heap.size w w' := by
  unfold impl_VLWrite.f at h
  split at h
  · rename_i hc
    obtain ⟨hk, h0, h1⟩ := hc
    obtain rfl := Option.some.inj h
    rcases hk with rfl | rfl
    · refine (write5 a1 h0 h1 w (hg 5 (by omega))).mono ?_
      rintro e w' ⟨rfl, hh, hb⟩
      exact ⟨_, rfl, R_bytes (threeL a1) hh (by simp [threeL]), hb⟩
    · refine (write6 a1 h0 h1 w (hg 6 (by omega))).mono ?_
      rintro e w' ⟨rfl, hh, hb⟩
      exact ⟨_, rfl, R_bytes (threeL a1) hh (by simp [threeL]), hb⟩
  · cases h
end Go.Proofs.YthicaehcoingeaaDoor.PVM
