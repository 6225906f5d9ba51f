/-
  Contracts of impl.VLWrite, a theorem a kind: the bytes of the number, as many as the kind has, the lowest one first, in a new slice. Condition: the variable impl.sizes reads as the program lays it.
-/
import Derived.Test.YthicaehcoingeaaDoorVRr
import Derived.RegionCalls
import Derived.Deep.RegionWith
namespace Go.Proofs.YthicaehcoingeaaDoor.PVL
open Go.RowKit Go.Proofs.YthicaehcoingeaaDoorW.PrintWords Go.Proofs.YthicaehcoingeaaDoorW.PrintLast Go.Proofs.YthicaehcoingeaaDoorW.PrintMore
set_option linter.unusedVariables false
set_option linter.unusedSimpArgs false
set_option maxRecDepth 100000
@[go_sem] theorem mk1 (w : World) : (Instr.makeSlice 23 (.int .i64 1) (.int .i64 1)).run Tryd.prog w = .ok (.slice (some ⟨w.heap.size, 0, none⟩) 1 1) (w.alloc (.cells #[.int .u8 0] 5)) := by kernel_rfl
@[go_sem] theorem mk2 (w : World) : (Instr.makeSlice 23 (.int .i64 2) (.int .i64 2)).run Tryd.prog w = .ok (.slice (some ⟨w.heap.size, 0, none⟩) 2 2) (w.alloc (.cells #[.int .u8 0, .int .u8 0] 5)) := by kernel_rfl
@[go_sem] theorem mk4 (w : World) : (Instr.makeSlice 23 (.int .i64 4) (.int .i64 4)).run Tryd.prog w = .ok (.slice (some ⟨w.heap.size, 0, none⟩) 4 4) (w.alloc (.cells #[.int .u8 0, .int .u8 0, .int .u8 0, .int .u8 0] 5)) := by kernel_rfl
@[go_sem] theorem mk6 (w : World) : (Instr.makeSlice 23 (.int .i64 6) (.int .i64 6)).run Tryd.prog w = .ok (.slice (some ⟨w.heap.size, 0, none⟩) 6 6) (w.alloc (.cells #[.int .u8 0, .int .u8 0, .int .u8 0, .int .u8 0, .int .u8 0, .int .u8 0] 5)) := by kernel_rfl
@[go_sem] theorem mk8 (w : World) : (Instr.makeSlice 23 (.int .i64 8) (.int .i64 8)).run Tryd.prog w = .ok (.slice (some ⟨w.heap.size, 0, none⟩) 8 8) (w.alloc (.cells #[.int .u8 0, .int .u8 0, .int .u8 0, .int .u8 0, .int .u8 0, .int .u8 0, .int .u8 0, .int .u8 0] 5)) := by kernel_rfl
theorem wraps_u64 (n : Int) (h0 : 0 ≤ n) (h1 : n < 2 ^ 64) : IntKind.u64.wrap n = n := by rw [IntKind.wrap_u64]; omega
theorem mask48 (b : Int) (h0 : 0 ≤ b) (h1 : b ≤ 18446744073709551615) : bits .and .u64 b 281474976710655 = b % 281474976710656 := by
  have h := bits_mask .u64 64 (by decide) wraps_u64 48 (by decide) b h0 (by omega)
  have e : ((2 : Int) ^ 48 - 1) = 281474976710655 := by decide
  have e2 : ((2 : Int) ^ 48) = 281474976710656 := by decide
  rw [e, e2] at h
  exact h
/-- A new block of bytes, known whole, as a row of the call's own. -/
theorem R_bytes {w' : World} {N : Nat} (l : List Int) (hh : w'.heap[N]? = some (.cells (l.map (Value.int .u8)).toArray 5 (0, 0))) (hl : l.length ≤ 1000) : Kd.R (Kd.int .u8) 5 w' N (fun _ => True) (.slice (some ⟨N, 0, none⟩) l.length l.length) l := by
  refine Kd.R_of_own (enc := Value.int .u8) ?_ (fun _ _ => trivial)
  refine ⟨by simp [encs], .inr ⟨N, l.length, _, rfl, Nat.le_refl _, hh, Nat.le_refl _, by unfold maxLen; omega, by simp, ?_⟩⟩
  rw [Nat.mul_one, List.take_of_length_le (by simp)]
  rfl
theorem i8w (x : Int) : IntKind.i8.wrap x = (x + 128) % 256 - 128 := by
  simp [IntKind.wrap, IntKind.bits, IntKind.signed, Int.bmod]
  split <;> omega
theorem i16w (x : Int) : IntKind.i16.wrap x = (x + 32768) % 65536 - 32768 := by
  simp [IntKind.wrap, IntKind.bits, IntKind.signed, Int.bmod]
  split <;> omega
theorem u16w (x : Int) : IntKind.u16.wrap x = x % 65536 := by simp [IntKind.wrap, IntKind.bits, IntKind.signed]
theorem u64b (b : Int) (h0 : 0 ≤ b) (h1 : b ≤ 18446744073709551615) : IntKind.u64.wrap (wrap64 b) = b := by rw [IntKind.wrap_u64]; unfold wrap64; omega
theorem blk1 (w : World) (o : Obj) : (w.alloc o).heap[w.heap.size]? = some o := heap_alloc_new w o
theorem blk2 (w : World) (o p : Obj) : ((w.alloc o).alloc p).heap[w.heap.size]? = some o := blk_alloc (heap_alloc_new w o) p
theorem blk3 (w : World) (o p q : Obj) : (((w.alloc o).alloc p).alloc q).heap[w.heap.size]? = some o := blk_alloc (blk2 w o p) q

set_option maxHeartbeats 1000000 in
theorem write1 (b : Int) (h0 : 0 ≤ b) (h1 : b ≤ 18446744073709551615) (w : World) (hc : w.cell? ⟨0, 1, none⟩ = some (.int .i64 1)) :
    Calls Tryd.prog 9 #[.int .i64 1, .int .u64 b] w fun e w' => e = .returned (.slice (some ⟨w.heap.size, 0, none⟩) 1 1) ∧ w'.heap[w.heap.size]? = some (.cells #[.int .u8 (b % 256)] 5 (0, 0)) ∧ Below w.heap.size w w' := by
  go_enter Tryd.func9, Tryd.ntmps9
  go_wp2
  go_end0
  go_wp2
  all_goals go_ret
  all_goals refine ⟨rfl, ?_, by repeat (first | (with_reducible exact Below.refl _ _) | (with_reducible apply below_alloc) | (with_reducible apply below_drew))⟩
  all_goals first | refine (blk1 _ _).trans ?_ | refine (blk2 _ _ _).trans ?_ | refine (blk3 _ _ _ _).trans ?_
  all_goals (try rw [u64b b h0 h1])
  all_goals simp only [Option.some.injEq, Obj.cells.injEq, Array.mk.injEq, List.cons.injEq, Value.int.injEq, and_true, true_and, wrap32, i8w, i16w, u16w]
  all_goals omega

set_option maxHeartbeats 1000000 in
theorem write2 (b : Int) (h0 : 0 ≤ b) (h1 : b ≤ 18446744073709551615) (w : World) (hc : w.cell? ⟨0, 2, none⟩ = some (.int .i64 1)) :
    Calls Tryd.prog 9 #[.int .i64 2, .int .u64 b] w fun e w' => e = .returned (.slice (some ⟨w.heap.size, 0, none⟩) 1 1) ∧ w'.heap[w.heap.size]? = some (.cells #[.int .u8 (b % 256)] 5 (0, 0)) ∧ Below w.heap.size w w' := by
  go_enter Tryd.func9, Tryd.ntmps9
  go_wp2
  go_end0
  go_wp2
  all_goals go_ret
  all_goals refine ⟨rfl, ?_, by repeat (first | (with_reducible exact Below.refl _ _) | (with_reducible apply below_alloc) | (with_reducible apply below_drew))⟩
  all_goals first | refine (blk1 _ _).trans ?_ | refine (blk2 _ _ _).trans ?_ | refine (blk3 _ _ _ _).trans ?_
  all_goals (try rw [u64b b h0 h1])
  all_goals simp only [Option.some.injEq, Obj.cells.injEq, Array.mk.injEq, List.cons.injEq, Value.int.injEq, and_true, true_and, wrap32, i8w, i16w, u16w]
  all_goals omega

set_option maxHeartbeats 1000000 in
theorem write3 (b : Int) (h0 : 0 ≤ b) (h1 : b ≤ 18446744073709551615) (w : World) (hc : w.cell? ⟨0, 3, none⟩ = some (.int .i64 2)) :
    Calls Tryd.prog 9 #[.int .i64 3, .int .u64 b] w fun e w' => e = .returned (.slice (some ⟨w.heap.size, 0, none⟩) 2 2) ∧ w'.heap[w.heap.size]? = some (.cells #[.int .u8 (b % 256), .int .u8 (b / 256 % 256)] 5 (0, 0)) ∧ Below w.heap.size w w' := by
  go_enter Tryd.func9, Tryd.ntmps9
  go_wp2
  go_end0
  go_wp2
  go_end0
  go_wp2
  all_goals go_ret
  all_goals refine ⟨rfl, ?_, by repeat (first | (with_reducible exact Below.refl _ _) | (with_reducible apply below_alloc) | (with_reducible apply below_drew))⟩
  all_goals first | refine (blk1 _ _).trans ?_ | refine (blk2 _ _ _).trans ?_ | refine (blk3 _ _ _ _).trans ?_
  all_goals (try rw [u64b b h0 h1])
  all_goals simp only [Option.some.injEq, Obj.cells.injEq, Array.mk.injEq, List.cons.injEq, Value.int.injEq, and_true, true_and, wrap32, i8w, i16w, u16w]
  all_goals omega

set_option maxHeartbeats 1000000 in
theorem write4 (b : Int) (h0 : 0 ≤ b) (h1 : b ≤ 18446744073709551615) (w : World) (hc : w.cell? ⟨0, 4, none⟩ = some (.int .i64 2)) :
    Calls Tryd.prog 9 #[.int .i64 4, .int .u64 b] w fun e w' => e = .returned (.slice (some ⟨w.heap.size, 0, none⟩) 2 2) ∧ w'.heap[w.heap.size]? = some (.cells #[.int .u8 (b % 256), .int .u8 (b / 256 % 256)] 5 (0, 0)) ∧ Below w.heap.size w w' := by
  go_enter Tryd.func9, Tryd.ntmps9
  go_wp2
  go_end0
  go_wp2
  go_end0
  go_wp2
  all_goals go_ret
  all_goals refine ⟨rfl, ?_, by repeat (first | (with_reducible exact Below.refl _ _) | (with_reducible apply below_alloc) | (with_reducible apply below_drew))⟩
  all_goals first | refine (blk1 _ _).trans ?_ | refine (blk2 _ _ _).trans ?_ | refine (blk3 _ _ _ _).trans ?_
  all_goals (try rw [u64b b h0 h1])
  all_goals simp only [Option.some.injEq, Obj.cells.injEq, Array.mk.injEq, List.cons.injEq, Value.int.injEq, and_true, true_and, wrap32, i8w, i16w, u16w]
  all_goals omega

set_option maxHeartbeats 1000000 in
theorem write7 (b : Int) (h0 : 0 ≤ b) (h1 : b ≤ 18446744073709551615) (w : World) (hc : w.cell? ⟨0, 7, none⟩ = some (.int .i64 4)) :
    Calls Tryd.prog 9 #[.int .i64 7, .int .u64 b] w fun e w' => e = .returned (.slice (some ⟨w.heap.size, 0, none⟩) 4 4) ∧ w'.heap[w.heap.size]? = some (.cells #[.int .u8 (b % 256), .int .u8 (b / 256 % 256), .int .u8 (b / 65536 % 256), .int .u8 (b / 16777216 % 256)] 5 (0, 0)) ∧ Below w.heap.size w w' := by
  go_enter Tryd.func9, Tryd.ntmps9
  go_wp2
  go_end0
  go_wp2
  go_end0
  go_wp2
  all_goals go_ret
  all_goals refine ⟨rfl, ?_, by repeat (first | (with_reducible exact Below.refl _ _) | (with_reducible apply below_alloc) | (with_reducible apply below_drew))⟩
  all_goals first | refine (blk1 _ _).trans ?_ | refine (blk2 _ _ _).trans ?_ | refine (blk3 _ _ _ _).trans ?_
  all_goals (try rw [u64b b h0 h1])
  all_goals simp only [Option.some.injEq, Obj.cells.injEq, Array.mk.injEq, List.cons.injEq, Value.int.injEq, and_true, true_and, wrap32, i8w, i16w, u16w]
  all_goals omega

set_option maxHeartbeats 1000000 in
theorem write8 (b : Int) (h0 : 0 ≤ b) (h1 : b ≤ 18446744073709551615) (w : World) (hc : w.cell? ⟨0, 8, none⟩ = some (.int .i64 4)) :
    Calls Tryd.prog 9 #[.int .i64 8, .int .u64 b] w fun e w' => e = .returned (.slice (some ⟨w.heap.size, 0, none⟩) 4 4) ∧ w'.heap[w.heap.size]? = some (.cells #[.int .u8 (b % 256), .int .u8 (b / 256 % 256), .int .u8 (b / 65536 % 256), .int .u8 (b / 16777216 % 256)] 5 (0, 0)) ∧ Below w.heap.size w w' := by
  go_enter Tryd.func9, Tryd.ntmps9
  go_wp2
  go_end0
  go_wp2
  go_end0
  go_wp2
  all_goals go_ret
  all_goals refine ⟨rfl, ?_, by repeat (first | (with_reducible exact Below.refl _ _) | (with_reducible apply below_alloc) | (with_reducible apply below_drew))⟩
  all_goals first | refine (blk1 _ _).trans ?_ | refine (blk2 _ _ _).trans ?_ | refine (blk3 _ _ _ _).trans ?_
  all_goals (try rw [u64b b h0 h1])
  all_goals simp only [Option.some.injEq, Obj.cells.injEq, Array.mk.injEq, List.cons.injEq, Value.int.injEq, and_true, true_and, wrap32, i8w, i16w, u16w]
  all_goals omega

set_option maxHeartbeats 1000000 in
theorem write9 (b : Int) (h0 : 0 ≤ b) (h1 : b ≤ 18446744073709551615) (w : World) (hc : w.cell? ⟨0, 9, none⟩ = some (.int .i64 8)) :
    Calls Tryd.prog 9 #[.int .i64 9, .int .u64 b] w fun e w' => e = .returned (.slice (some ⟨w.heap.size, 0, none⟩) 8 8) ∧ w'.heap[w.heap.size]? = some (.cells #[.int .u8 (b % 256), .int .u8 (b / 256 % 256), .int .u8 (b / 65536 % 256), .int .u8 (b / 16777216 % 256), .int .u8 (b / 4294967296 % 256), .int .u8 (b / 1099511627776 % 256), .int .u8 (b / 281474976710656 % 256), .int .u8 (b / 72057594037927936 % 256)] 5 (0, 0)) ∧ Below w.heap.size w w' := by
  go_enter Tryd.func9, Tryd.ntmps9
  go_wp2
  go_end0
  go_wp2
  go_end0
  go_wp2
  all_goals go_ret
  all_goals refine ⟨rfl, ?_, by repeat (first | (with_reducible exact Below.refl _ _) | (with_reducible apply below_alloc) | (with_reducible apply below_drew))⟩
  all_goals first | refine (blk1 _ _).trans ?_ | refine (blk2 _ _ _).trans ?_ | refine (blk3 _ _ _ _).trans ?_
  all_goals (try rw [u64b b h0 h1])
  all_goals simp only [Option.some.injEq, Obj.cells.injEq, Array.mk.injEq, List.cons.injEq, Value.int.injEq, and_true, true_and, wrap32, i8w, i16w, u16w]
  all_goals omega

set_option maxHeartbeats 1000000 in
theorem write10 (b : Int) (h0 : 0 ≤ b) (h1 : b ≤ 18446744073709551615) (w : World) (hc : w.cell? ⟨0, 10, none⟩ = some (.int .i64 8)) :
    Calls Tryd.prog 9 #[.int .i64 10, .int .u64 b] w fun e w' => e = .returned (.slice (some ⟨w.heap.size, 0, none⟩) 8 8) ∧ w'.heap[w.heap.size]? = some (.cells #[.int .u8 (b % 256), .int .u8 (b / 256 % 256), .int .u8 (b / 65536 % 256), .int .u8 (b / 16777216 % 256), .int .u8 (b / 4294967296 % 256), .int .u8 (b / 1099511627776 % 256), .int .u8 (b / 281474976710656 % 256), .int .u8 (b / 72057594037927936 % 256)] 5 (0, 0)) ∧ Below w.heap.size w w' := by
  go_enter Tryd.func9, Tryd.ntmps9
  go_wp2
  go_end0
  go_wp2
  go_end0
  go_wp2
  all_goals go_ret
  all_goals refine ⟨rfl, ?_, by repeat (first | (with_reducible exact Below.refl _ _) | (with_reducible apply below_alloc) | (with_reducible apply below_drew))⟩
  all_goals first | refine (blk1 _ _).trans ?_ | refine (blk2 _ _ _).trans ?_ | refine (blk3 _ _ _ _).trans ?_
  all_goals (try rw [u64b b h0 h1])
  all_goals simp only [Option.some.injEq, Obj.cells.injEq, Array.mk.injEq, List.cons.injEq, Value.int.injEq, and_true, true_and, wrap32, i8w, i16w, u16w]
  all_goals omega

set_option maxHeartbeats 1000000 in
theorem write11 (b : Int) (h0 : 0 ≤ b) (h1 : b ≤ 18446744073709551615) (w : World) (hc : w.cell? ⟨0, 11, none⟩ = some (.int .i64 4)) :
    Calls Tryd.prog 9 #[.int .i64 11, .int .u64 b] w fun e w' => e = .returned (.slice (some ⟨w.heap.size, 0, none⟩) 4 4) ∧ w'.heap[w.heap.size]? = some (.cells #[.int .u8 (b % 256), .int .u8 (b / 256 % 256), .int .u8 (b / 65536 % 256), .int .u8 (b / 16777216 % 256)] 5 (0, 0)) ∧ Below w.heap.size w w' := by
  go_enter Tryd.func9, Tryd.ntmps9
  go_wp2
  go_end0
  go_wp2
  go_region_with (go_at_call 69; go_in; go_wp2; go_end0)
  all_goals go_wp2
  all_goals go_ret
  all_goals refine ⟨rfl, ?_, by repeat (first | (with_reducible exact Below.refl _ _) | (with_reducible apply below_alloc) | (with_reducible apply below_drew))⟩
  all_goals first | refine (blk1 _ _).trans ?_ | refine (blk2 _ _ _).trans ?_ | refine (blk3 _ _ _ _).trans ?_
  all_goals (try rw [u64b b h0 h1])
  all_goals simp only [Option.some.injEq, Obj.cells.injEq, Array.mk.injEq, List.cons.injEq, Value.int.injEq, and_true, true_and, wrap32, i8w, i16w, u16w]
  all_goals omega

set_option maxHeartbeats 1000000 in
theorem write12 (b : Int) (h0 : 0 ≤ b) (h1 : b ≤ 18446744073709551615) (w : World) (hc : w.cell? ⟨0, 12, none⟩ = some (.int .i64 8)) :
    Calls Tryd.prog 9 #[.int .i64 12, .int .u64 b] w fun e w' => e = .returned (.slice (some ⟨w.heap.size, 0, none⟩) 8 8) ∧ w'.heap[w.heap.size]? = some (.cells #[.int .u8 (b % 256), .int .u8 (b / 256 % 256), .int .u8 (b / 65536 % 256), .int .u8 (b / 16777216 % 256), .int .u8 (b / 4294967296 % 256), .int .u8 (b / 1099511627776 % 256), .int .u8 (b / 281474976710656 % 256), .int .u8 (b / 72057594037927936 % 256)] 5 (0, 0)) ∧ Below w.heap.size w w' := by
  go_enter Tryd.func9, Tryd.ntmps9
  go_wp2
  go_end0
  go_wp2
  go_region_with (go_at_call 70; go_in; go_wp2; go_end0)
  all_goals go_wp2
  all_goals go_ret
  all_goals refine ⟨rfl, ?_, by repeat (first | (with_reducible exact Below.refl _ _) | (with_reducible apply below_alloc) | (with_reducible apply below_drew))⟩
  all_goals first | refine (blk1 _ _).trans ?_ | refine (blk2 _ _ _).trans ?_ | refine (blk3 _ _ _ _).trans ?_
  all_goals (try rw [u64b b h0 h1])
  all_goals simp only [Option.some.injEq, Obj.cells.injEq, Array.mk.injEq, List.cons.injEq, Value.int.injEq, and_true, true_and, wrap32, i8w, i16w, u16w]
  all_goals omega

set_option maxHeartbeats 1000000 in
theorem write13 (b : Int) (h0 : 0 ≤ b) (h1 : b ≤ 18446744073709551615) (w : World) (hc : w.cell? ⟨0, 13, none⟩ = some (.int .i64 6)) :
    Calls Tryd.prog 9 #[.int .i64 13, .int .u64 b] w fun e w' => e = .returned (.slice (some ⟨w.heap.size, 0, none⟩) 6 6) ∧ w'.heap[w.heap.size]? = some (.cells #[.int .u8 (b % 256), .int .u8 (b / 256 % 256), .int .u8 (b / 65536 % 256), .int .u8 (b / 16777216 % 256), .int .u8 (b / 4294967296 % 256), .int .u8 (b / 1099511627776 % 256)] 5 (0, 0)) ∧ Below w.heap.size w w' := by
  have hm := mask48 b h0 h1
  have g0 : 0 ≤ b % 281474976710656 := by omega
  have g1 : b % 281474976710656 ≤ 281474976710655 := by omega
  go_enter Tryd.func9, Tryd.ntmps9
  go_wp2
  go_end0
  go_wp2
  go_region_with (go_at_call 70; go_in; go_wp2; go_end0)
  all_goals go_wp2
  all_goals go_ret
  all_goals refine ⟨rfl, ?_, by repeat (first | (with_reducible exact Below.refl _ _) | (with_reducible apply below_alloc) | (with_reducible apply below_drew))⟩
  all_goals first | refine (blk1 _ _).trans ?_ | refine (blk2 _ _ _).trans ?_ | refine (blk3 _ _ _ _).trans ?_
  all_goals (try rw [u64b b h0 h1])
  all_goals simp only [Option.some.injEq, Obj.cells.injEq, Array.mk.injEq, List.cons.injEq, Value.int.injEq, and_true, true_and, wrap32, i8w, i16w, u16w]
  all_goals omega

set_option maxHeartbeats 1000000 in
theorem write14 (b : Int) (h0 : 0 ≤ b) (h1 : b ≤ 18446744073709551615) (w : World) (hc : w.cell? ⟨0, 14, none⟩ = some (.int .i64 6)) :
    Calls Tryd.prog 9 #[.int .i64 14, .int .u64 b] w fun e w' => e = .returned (.slice (some ⟨w.heap.size, 0, none⟩) 6 6) ∧ w'.heap[w.heap.size]? = some (.cells #[.int .u8 (b % 256), .int .u8 (b / 256 % 256), .int .u8 (b / 65536 % 256), .int .u8 (b / 16777216 % 256), .int .u8 (b / 4294967296 % 256), .int .u8 (b / 1099511627776 % 256)] 5 (0, 0)) ∧ Below w.heap.size w w' := by
  have hm := mask48 b h0 h1
  have g0 : 0 ≤ b % 281474976710656 := by omega
  have g1 : b % 281474976710656 ≤ 281474976710655 := by omega
  go_enter Tryd.func9, Tryd.ntmps9
  go_wp2
  go_end0
  go_wp2
  go_region_with (go_at_call 70; go_in; go_wp2; go_end0)
  all_goals go_wp2
  all_goals go_ret
  all_goals refine ⟨rfl, ?_, by repeat (first | (with_reducible exact Below.refl _ _) | (with_reducible apply below_alloc) | (with_reducible apply below_drew))⟩
  all_goals first | refine (blk1 _ _).trans ?_ | refine (blk2 _ _ _).trans ?_ | refine (blk3 _ _ _ _).trans ?_
  all_goals (try rw [u64b b h0 h1])
  all_goals simp only [Option.some.injEq, Obj.cells.injEq, Array.mk.injEq, List.cons.injEq, Value.int.injEq, and_true, true_and, wrap32, i8w, i16w, u16w]
  all_goals omega
end Go.Proofs.YthicaehcoingeaaDoor.PVL
