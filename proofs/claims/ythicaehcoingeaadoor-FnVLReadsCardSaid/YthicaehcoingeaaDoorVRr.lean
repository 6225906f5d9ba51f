/-
  Contracts of impl.VLRead, a theorem a kind: the bytes of a slice as a number, the lowest one first, with its sign. Condition: the variable impl.sizes reads as the program lays it.
-/
import Derived.Test.YthicaehcoingeaaDoorVRl
import Derived.Test.YthicaehcoingeaaDoorShelfB
import Derived.Laws.Externs
namespace Go.Proofs.YthicaehcoingeaaDoor.PVL
open Go.RowKit Go.Proofs.YthicaehcoingeaaDoorW.PrintWords Go.Proofs.YthicaehcoingeaaDoorW.PrintLast Go.Proofs.YthicaehcoingeaaDoorW.PrintMore
set_option linter.unusedVariables false
set_option linter.unusedSimpArgs false
set_option maxRecDepth 100000
@[go_sem] theorem ext36 (n : Int) (w : World) : (callFunc 36 #[.int .u32 n]).run Tryd.prog w = .ok (.value (.float .f32 n.toNat)) w := by kernel_rfl
@[go_sem] theorem ext38 (n : Int) (w : World) : (callFunc 38 #[.int .u64 n]).run Tryd.prog w = .ok (.value (.float .f64 n.toNat)) w := by kernel_rfl
@[go_sem] theorem ext56 (n : Nat) (w : World) : (callFunc 56 #[.float .f32 n]).run Tryd.prog w = .ok (.value (.int .u32 n)) w := by kernel_rfl
@[go_sem] theorem ext58 (n : Nat) (w : World) : (callFunc 58 #[.float .f64 n]).run Tryd.prog w = .ok (.value (.int .u64 n)) w := by kernel_rfl
/-- The number that some bytes are, with its sign: of so many bits, if it has one (else 64). -/
def numOf (bits : Nat) (n : Nat) : Int := if bits < 64 ∧ 2 ^ (bits - 1) ≤ n then (n : Int) + 18446744073709551616 - 2 ^ bits else n
theorem ret_int {k : IntKind} {a b : Int} (h : a = b) : Ending.returned (.int k a) = .returned (.int k b) := by rw [h]
theorem n64 (x : Nat) : numOf 64 x = x := by simp [numOf]
theorem e64a (x : Nat) (h : x < 18446744073709551616) : IntKind.u64.wrap (wrap64 (x : Int)) = numOf 64 x := by rw [n64, IntKind.wrap_u64]; unfold wrap64; omega
theorem e64b (x : Nat) (h : x < 18446744073709551616) : IntKind.u64.wrap (x : Int) = numOf 64 x := by rw [n64, IntKind.wrap_u64]; omega
theorem e8 (x : Nat) (h : x < 256) : IntKind.u64.wrap (wrap64 (IntKind.i8.wrap (x : Int))) = numOf 8 x := by
  have e : IntKind.i8.wrap (x : Int) = if (x : Int) % 256 < 128 then (x : Int) % 256 else (x : Int) % 256 - 256 := by
    simp [IntKind.wrap, IntKind.bits, IntKind.signed, Int.bmod]
    split <;> split <;> omega
  rw [IntKind.wrap_u64, e]
  unfold wrap64 numOf
  split <;> split <;> omega
theorem e16 (x : Nat) (h : x < 65536) : IntKind.u64.wrap (wrap64 (IntKind.i16.wrap (x : Int))) = numOf 16 x := by
  have e : IntKind.i16.wrap (x : Int) = if (x : Int) % 65536 < 32768 then (x : Int) % 65536 else (x : Int) % 65536 - 65536 := by
    simp [IntKind.wrap, IntKind.bits, IntKind.signed, Int.bmod]
    split <;> split <;> omega
  rw [IntKind.wrap_u64, e]
  unfold wrap64 numOf
  split <;> split <;> omega
theorem e32 (x : Nat) (h : x < 4294967296) : IntKind.u64.wrap (wrap64 (wrap32 (x : Int))) = numOf 32 x := by
  rw [IntKind.wrap_u64]
  unfold wrap64 wrap32 numOf
  split <;> omega
theorem le1 (b0 : UInt8) : Lib.leNat [b0] < 256 := by
  have u0 := b0.toNat_lt
  simp only [Lib.leNat]
  omega
theorem le2 (b0 b1 : UInt8) : Lib.leNat [b0, b1] < 65536 := by
  have u0 := b0.toNat_lt
  have u1 := b1.toNat_lt
  simp only [Lib.leNat]
  omega
theorem le4 (b0 b1 b2 b3 : UInt8) : Lib.leNat [b0, b1, b2, b3] < 4294967296 := by
  have u0 := b0.toNat_lt
  have u1 := b1.toNat_lt
  have u2 := b2.toNat_lt
  have u3 := b3.toNat_lt
  simp only [Lib.leNat]
  omega
theorem le8 (b0 b1 b2 b3 b4 b5 b6 b7 : UInt8) : Lib.leNat [b0, b1, b2, b3, b4, b5, b6, b7] < 18446744073709551616 := by
  have h1 := le4 b0 b1 b2 b3
  have h2 := le4 b4 b5 b6 b7
  have e : Lib.leNat [b0, b1, b2, b3, b4, b5, b6, b7] = Lib.leNat [b0, b1, b2, b3] + 4294967296 * Lib.leNat [b4, b5, b6, b7] := by
    simp only [Lib.leNat]
    omega
  rw [e]
  generalize Lib.leNat [b0, b1, b2, b3] = x at *
  generalize Lib.leNat [b4, b5, b6, b7] = y at *
  omega

set_option maxHeartbeats 1000000 in
theorem read1 (b0 : UInt8) (W : World) (g c : Nat) (hg : Glob W) (hc : 1 ≤ c) (c0 : W.cell? ⟨g, 0, none⟩ = some (.int .u8 b0.toNat)) :
    Calls Tryd.prog 17 #[.int .i64 1, .slice (some ⟨g, 0, none⟩) 1 c] W fun e w' => e = .returned (.int .u64 (numOf 8 (Lib.leNat [b0]))) ∧ Below W.heap.size W w' := by
  have hz : W.cell? ⟨0, 1, none⟩ = some (.int .i64 1) := hg 1 (by omega)
  clear hg
  have u0 := b0.toNat_lt
  go_enter Tryd.func17, Tryd.ntmps17
  go_wp2
  go_end0
  go_wp2
  go_ret
  refine ⟨(ret_int (a := _) ?_), Below.refl _ _⟩
  have e := e8 _ (le1 b0)
  simpa [Lib.leNat] using e

set_option maxHeartbeats 1000000 in
theorem read2 (b0 : UInt8) (W : World) (g c : Nat) (hg : Glob W) (hc : 1 ≤ c) (c0 : W.cell? ⟨g, 0, none⟩ = some (.int .u8 b0.toNat)) :
    Calls Tryd.prog 17 #[.int .i64 2, .slice (some ⟨g, 0, none⟩) 1 c] W fun e w' => e = .returned (.int .u64 (numOf 64 (Lib.leNat [b0]))) ∧ Below W.heap.size W w' := by
  have hz : W.cell? ⟨0, 2, none⟩ = some (.int .i64 1) := hg 2 (by omega)
  clear hg
  have u0 := b0.toNat_lt
  go_enter Tryd.func17, Tryd.ntmps17
  go_wp2
  go_end0
  go_wp2
  go_ret
  refine ⟨(ret_int (a := _) ?_), Below.refl _ _⟩
  have e := (n64 (Lib.leNat [b0])).symm
  simpa [Lib.leNat] using e

set_option maxHeartbeats 1000000 in
theorem read3 (b0 b1 : UInt8) (W : World) (g c : Nat) (hg : Glob W) (hc : 2 ≤ c) (c0 : W.cell? ⟨g, 0, none⟩ = some (.int .u8 b0.toNat)) (c1 : W.cell? ⟨g, 1, none⟩ = some (.int .u8 b1.toNat)) :
    Calls Tryd.prog 17 #[.int .i64 3, .slice (some ⟨g, 0, none⟩) 2 c] W fun e w' => e = .returned (.int .u64 (numOf 16 (Lib.leNat [b0, b1]))) ∧ Below W.heap.size W w' := by
  have hz : W.cell? ⟨0, 3, none⟩ = some (.int .i64 2) := hg 3 (by omega)
  clear hg
  have u0 := b0.toNat_lt
  have u1 := b1.toNat_lt
  go_enter Tryd.func17, Tryd.ntmps17
  go_wp2
  go_end0
  go_wp2_with (first | (go_at_call 74; refine (Tryd.binary_LE_Uint16 _ _ _ _ b0 b1 _ (by omega) (by assumption) (by assumption)).mono ?_; rintro e w1 ⟨rfl, hb⟩) | go_in)
  go_ret
  exact ⟨ret_int (e16 _ (le2 b0 b1)), hb⟩

set_option maxHeartbeats 1000000 in
theorem read4 (b0 b1 : UInt8) (W : World) (g c : Nat) (hg : Glob W) (hc : 2 ≤ c) (c0 : W.cell? ⟨g, 0, none⟩ = some (.int .u8 b0.toNat)) (c1 : W.cell? ⟨g, 1, none⟩ = some (.int .u8 b1.toNat)) :
    Calls Tryd.prog 17 #[.int .i64 4, .slice (some ⟨g, 0, none⟩) 2 c] W fun e w' => e = .returned (.int .u64 (numOf 64 (Lib.leNat [b0, b1]))) ∧ Below W.heap.size W w' := by
  have hz : W.cell? ⟨0, 4, none⟩ = some (.int .i64 2) := hg 4 (by omega)
  clear hg
  have u0 := b0.toNat_lt
  have u1 := b1.toNat_lt
  go_enter Tryd.func17, Tryd.ntmps17
  go_wp2
  go_end0
  go_wp2_with (first | (go_at_call 74; refine (Tryd.binary_LE_Uint16 _ _ _ _ b0 b1 _ (by omega) (by assumption) (by assumption)).mono ?_; rintro e w1 ⟨rfl, hb⟩) | go_in)
  go_ret
  exact ⟨ret_int (e64b _ (by have := le2 b0 b1; omega)), hb⟩

set_option maxHeartbeats 1000000 in
theorem read7 (b0 b1 b2 b3 : UInt8) (W : World) (g c : Nat) (hg : Glob W) (hc : 4 ≤ c) (c0 : W.cell? ⟨g, 0, none⟩ = some (.int .u8 b0.toNat)) (c1 : W.cell? ⟨g, 1, none⟩ = some (.int .u8 b1.toNat)) (c2 : W.cell? ⟨g, 2, none⟩ = some (.int .u8 b2.toNat)) (c3 : W.cell? ⟨g, 3, none⟩ = some (.int .u8 b3.toNat)) :
    Calls Tryd.prog 17 #[.int .i64 7, .slice (some ⟨g, 0, none⟩) 4 c] W fun e w' => e = .returned (.int .u64 (numOf 32 (Lib.leNat [b0, b1, b2, b3]))) ∧ Below W.heap.size W w' := by
  have hz : W.cell? ⟨0, 7, none⟩ = some (.int .i64 4) := hg 7 (by omega)
  clear hg
  have u0 := b0.toNat_lt
  have u1 := b1.toNat_lt
  have u2 := b2.toNat_lt
  have u3 := b3.toNat_lt
  go_enter Tryd.func17, Tryd.ntmps17
  go_wp2
  go_end0
  go_wp2_with (first | (go_at_call 75; refine (Tryd.binary_LE_Uint32 _ _ _ _ b0 b1 b2 b3 _ (by omega) (by assumption) (by assumption) (by assumption) (by assumption)).mono ?_; rintro e w1 ⟨rfl, hb⟩) | go_in)
  go_ret
  exact ⟨ret_int (e32 _ (le4 b0 b1 b2 b3)), hb⟩

set_option maxHeartbeats 1000000 in
theorem read8 (b0 b1 b2 b3 : UInt8) (W : World) (g c : Nat) (hg : Glob W) (hc : 4 ≤ c) (c0 : W.cell? ⟨g, 0, none⟩ = some (.int .u8 b0.toNat)) (c1 : W.cell? ⟨g, 1, none⟩ = some (.int .u8 b1.toNat)) (c2 : W.cell? ⟨g, 2, none⟩ = some (.int .u8 b2.toNat)) (c3 : W.cell? ⟨g, 3, none⟩ = some (.int .u8 b3.toNat)) :
    Calls Tryd.prog 17 #[.int .i64 8, .slice (some ⟨g, 0, none⟩) 4 c] W fun e w' => e = .returned (.int .u64 (numOf 64 (Lib.leNat [b0, b1, b2, b3]))) ∧ Below W.heap.size W w' := by
  have hz : W.cell? ⟨0, 8, none⟩ = some (.int .i64 4) := hg 8 (by omega)
  clear hg
  have u0 := b0.toNat_lt
  have u1 := b1.toNat_lt
  have u2 := b2.toNat_lt
  have u3 := b3.toNat_lt
  go_enter Tryd.func17, Tryd.ntmps17
  go_wp2
  go_end0
  go_wp2_with (first | (go_at_call 75; refine (Tryd.binary_LE_Uint32 _ _ _ _ b0 b1 b2 b3 _ (by omega) (by assumption) (by assumption) (by assumption) (by assumption)).mono ?_; rintro e w1 ⟨rfl, hb⟩) | go_in)
  go_ret
  exact ⟨ret_int (e64b _ (by have := le4 b0 b1 b2 b3; omega)), hb⟩

set_option maxHeartbeats 1000000 in
theorem read9 (b0 b1 b2 b3 b4 b5 b6 b7 : UInt8) (W : World) (g c : Nat) (hg : Glob W) (hc : 8 ≤ c) (c0 : W.cell? ⟨g, 0, none⟩ = some (.int .u8 b0.toNat)) (c1 : W.cell? ⟨g, 1, none⟩ = some (.int .u8 b1.toNat)) (c2 : W.cell? ⟨g, 2, none⟩ = some (.int .u8 b2.toNat)) (c3 : W.cell? ⟨g, 3, none⟩ = some (.int .u8 b3.toNat)) (c4 : W.cell? ⟨g, 4, none⟩ = some (.int .u8 b4.toNat)) (c5 : W.cell? ⟨g, 5, none⟩ = some (.int .u8 b5.toNat)) (c6 : W.cell? ⟨g, 6, none⟩ = some (.int .u8 b6.toNat)) (c7 : W.cell? ⟨g, 7, none⟩ = some (.int .u8 b7.toNat)) :
    Calls Tryd.prog 17 #[.int .i64 9, .slice (some ⟨g, 0, none⟩) 8 c] W fun e w' => e = .returned (.int .u64 (numOf 64 (Lib.leNat [b0, b1, b2, b3, b4, b5, b6, b7]))) ∧ Below W.heap.size W w' := by
  have hz : W.cell? ⟨0, 9, none⟩ = some (.int .i64 8) := hg 9 (by omega)
  clear hg
  have u0 := b0.toNat_lt
  have u1 := b1.toNat_lt
  have u2 := b2.toNat_lt
  have u3 := b3.toNat_lt
  have u4 := b4.toNat_lt
  have u5 := b5.toNat_lt
  have u6 := b6.toNat_lt
  have u7 := b7.toNat_lt
  go_enter Tryd.func17, Tryd.ntmps17
  go_wp2
  go_end0
  go_wp2_with (first | (go_at_call 76; refine (Tryd.binary_LE_Uint64 _ _ _ _ b0 b1 b2 b3 b4 b5 b6 b7 _ (by omega) (by assumption) (by assumption) (by assumption) (by assumption) (by assumption) (by assumption) (by assumption) (by assumption)).mono ?_; rintro e w1 ⟨rfl, hb⟩) | go_in)
  go_ret
  exact ⟨ret_int (e64a _ (le8 b0 b1 b2 b3 b4 b5 b6 b7)), hb⟩

set_option maxHeartbeats 1000000 in
theorem read10 (b0 b1 b2 b3 b4 b5 b6 b7 : UInt8) (W : World) (g c : Nat) (hg : Glob W) (hc : 8 ≤ c) (c0 : W.cell? ⟨g, 0, none⟩ = some (.int .u8 b0.toNat)) (c1 : W.cell? ⟨g, 1, none⟩ = some (.int .u8 b1.toNat)) (c2 : W.cell? ⟨g, 2, none⟩ = some (.int .u8 b2.toNat)) (c3 : W.cell? ⟨g, 3, none⟩ = some (.int .u8 b3.toNat)) (c4 : W.cell? ⟨g, 4, none⟩ = some (.int .u8 b4.toNat)) (c5 : W.cell? ⟨g, 5, none⟩ = some (.int .u8 b5.toNat)) (c6 : W.cell? ⟨g, 6, none⟩ = some (.int .u8 b6.toNat)) (c7 : W.cell? ⟨g, 7, none⟩ = some (.int .u8 b7.toNat)) :
    Calls Tryd.prog 17 #[.int .i64 10, .slice (some ⟨g, 0, none⟩) 8 c] W fun e w' => e = .returned (.int .u64 (numOf 64 (Lib.leNat [b0, b1, b2, b3, b4, b5, b6, b7]))) ∧ Below W.heap.size W w' := by
  have hz : W.cell? ⟨0, 10, none⟩ = some (.int .i64 8) := hg 10 (by omega)
  clear hg
  have u0 := b0.toNat_lt
  have u1 := b1.toNat_lt
  have u2 := b2.toNat_lt
  have u3 := b3.toNat_lt
  have u4 := b4.toNat_lt
  have u5 := b5.toNat_lt
  have u6 := b6.toNat_lt
  have u7 := b7.toNat_lt
  go_enter Tryd.func17, Tryd.ntmps17
  go_wp2
  go_end0
  go_wp2_with (first | (go_at_call 76; refine (Tryd.binary_LE_Uint64 _ _ _ _ b0 b1 b2 b3 b4 b5 b6 b7 _ (by omega) (by assumption) (by assumption) (by assumption) (by assumption) (by assumption) (by assumption) (by assumption) (by assumption)).mono ?_; rintro e w1 ⟨rfl, hb⟩) | go_in)
  go_ret
  exact ⟨ret_int ((n64 _).symm), hb⟩

set_option maxHeartbeats 1000000 in
theorem read11 (b0 b1 b2 b3 : UInt8) (W : World) (g c : Nat) (hg : Glob W) (hc : 4 ≤ c) (c0 : W.cell? ⟨g, 0, none⟩ = some (.int .u8 b0.toNat)) (c1 : W.cell? ⟨g, 1, none⟩ = some (.int .u8 b1.toNat)) (c2 : W.cell? ⟨g, 2, none⟩ = some (.int .u8 b2.toNat)) (c3 : W.cell? ⟨g, 3, none⟩ = some (.int .u8 b3.toNat)) :
    Calls Tryd.prog 17 #[.int .i64 11, .slice (some ⟨g, 0, none⟩) 4 c] W fun e w' => e = .returned (.int .u64 (numOf 64 (Lib.leNat [b0, b1, b2, b3]))) ∧ Below W.heap.size W w' := by
  have hz : W.cell? ⟨0, 11, none⟩ = some (.int .i64 4) := hg 11 (by omega)
  clear hg
  have u0 := b0.toNat_lt
  have u1 := b1.toNat_lt
  have u2 := b2.toNat_lt
  have u3 := b3.toNat_lt
  go_enter Tryd.func17, Tryd.ntmps17
  go_wp2
  go_end0
  go_wp2_with go_in
  go_end0
  go_wp2_with (first | (go_at_call 75; refine (Tryd.binary_LE_Uint32 _ _ _ _ b0 b1 b2 b3 _ (by omega) (by assumption) (by assumption) (by assumption) (by assumption)).mono ?_; rintro e w1 ⟨rfl, hb⟩) | go_in)
  go_ret
  exact ⟨ret_int (e64b _ (by have := le4 b0 b1 b2 b3; omega)), hb⟩

set_option maxHeartbeats 1000000 in
theorem read12 (b0 b1 b2 b3 b4 b5 b6 b7 : UInt8) (W : World) (g c : Nat) (hg : Glob W) (hc : 8 ≤ c) (c0 : W.cell? ⟨g, 0, none⟩ = some (.int .u8 b0.toNat)) (c1 : W.cell? ⟨g, 1, none⟩ = some (.int .u8 b1.toNat)) (c2 : W.cell? ⟨g, 2, none⟩ = some (.int .u8 b2.toNat)) (c3 : W.cell? ⟨g, 3, none⟩ = some (.int .u8 b3.toNat)) (c4 : W.cell? ⟨g, 4, none⟩ = some (.int .u8 b4.toNat)) (c5 : W.cell? ⟨g, 5, none⟩ = some (.int .u8 b5.toNat)) (c6 : W.cell? ⟨g, 6, none⟩ = some (.int .u8 b6.toNat)) (c7 : W.cell? ⟨g, 7, none⟩ = some (.int .u8 b7.toNat)) :
    Calls Tryd.prog 17 #[.int .i64 12, .slice (some ⟨g, 0, none⟩) 8 c] W fun e w' => e = .returned (.int .u64 (numOf 64 (Lib.leNat [b0, b1, b2, b3, b4, b5, b6, b7]))) ∧ Below W.heap.size W w' := by
  have hz : W.cell? ⟨0, 12, none⟩ = some (.int .i64 8) := hg 12 (by omega)
  clear hg
  have u0 := b0.toNat_lt
  have u1 := b1.toNat_lt
  have u2 := b2.toNat_lt
  have u3 := b3.toNat_lt
  have u4 := b4.toNat_lt
  have u5 := b5.toNat_lt
  have u6 := b6.toNat_lt
  have u7 := b7.toNat_lt
  go_enter Tryd.func17, Tryd.ntmps17
  go_wp2
  go_end0
  go_wp2_with go_in
  go_end0
  go_wp2_with (first | (go_at_call 76; refine (Tryd.binary_LE_Uint64 _ _ _ _ b0 b1 b2 b3 b4 b5 b6 b7 _ (by omega) (by assumption) (by assumption) (by assumption) (by assumption) (by assumption) (by assumption) (by assumption) (by assumption)).mono ?_; rintro e w1 ⟨rfl, hb⟩) | go_in)
  go_ret
  exact ⟨ret_int ((n64 _).symm), hb⟩

set_option maxHeartbeats 1000000 in
theorem read13 (b0 b1 b2 b3 b4 b5 : UInt8) (W : World) (g c : Nat) (hg : Glob W) (hc : 6 ≤ c) (c0 : W.cell? ⟨g, 0, none⟩ = some (.int .u8 b0.toNat)) (c1 : W.cell? ⟨g, 1, none⟩ = some (.int .u8 b1.toNat)) (c2 : W.cell? ⟨g, 2, none⟩ = some (.int .u8 b2.toNat)) (c3 : W.cell? ⟨g, 3, none⟩ = some (.int .u8 b3.toNat)) (c4 : W.cell? ⟨g, 4, none⟩ = some (.int .u8 b4.toNat)) (c5 : W.cell? ⟨g, 5, none⟩ = some (.int .u8 b5.toNat)) :
    Calls Tryd.prog 17 #[.int .i64 13, .slice (some ⟨g, 0, none⟩) 6 c] W fun e w' => e = .returned (.int .u64 (numOf 64 (Lib.leNat [b0, b1, b2, b3, b4, b5]))) ∧ Below W.heap.size W w' := by
  have hz : W.cell? ⟨0, 13, none⟩ = some (.int .i64 6) := hg 13 (by omega)
  clear hg
  have u0 := b0.toNat_lt
  have u1 := b1.toNat_lt
  have u2 := b2.toNat_lt
  have u3 := b3.toNat_lt
  have u4 := b4.toNat_lt
  have u5 := b5.toNat_lt
  have d0 : ∀ o, (W.alloc o).cell? ⟨g, 0, none⟩ = some (.int .u8 b0.toNat) := fun o => pw_cell_below (below_alloc (Below.refl _ _) o) c0
  have d1 : ∀ o, (W.alloc o).cell? ⟨g, 1, none⟩ = some (.int .u8 b1.toNat) := fun o => pw_cell_below (below_alloc (Below.refl _ _) o) c1
  have d2 : ∀ o, (W.alloc o).cell? ⟨g, 2, none⟩ = some (.int .u8 b2.toNat) := fun o => pw_cell_below (below_alloc (Below.refl _ _) o) c2
  have d3 : ∀ o, (W.alloc o).cell? ⟨g, 3, none⟩ = some (.int .u8 b3.toNat) := fun o => pw_cell_below (below_alloc (Below.refl _ _) o) c3
  have d4 : ∀ o, (W.alloc o).cell? ⟨g, 4, none⟩ = some (.int .u8 b4.toNat) := fun o => pw_cell_below (below_alloc (Below.refl _ _) o) c4
  have d5 : ∀ o, (W.alloc o).cell? ⟨g, 5, none⟩ = some (.int .u8 b5.toNat) := fun o => pw_cell_below (below_alloc (Below.refl _ _) o) c5
  go_enter Tryd.func17, Tryd.ntmps17
  go_wp2
  go_end0
  go_wp2
  go_region
  go_wp2
  go_region
  go_wp2
  go_region
  go_wp2
  clear d0 d1 d2 d3 d4 d5
  go_region_with (go_at_call 76; refine (Tryd.binary_LE_Uint64 _ 0 _ _ b0 b1 b2 b3 b4 b5 0 0 _ (by omega) (by simp [go_sem]) (by simp [go_sem]) (by simp [go_sem]) (by simp [go_sem]) (by simp [go_sem]) (by simp [go_sem]) (by simp [go_sem]) (by simp [go_sem])).mono ?_; rintro e w1 ⟨rfl, hb⟩)
  all_goals go_wp2
  all_goals go_simp
  all_goals go_wp2
  all_goals go_ret
  all_goals exact ⟨ret_int ((e64a _ (le8 b0 b1 b2 b3 b4 b5 0 0)).trans (congrArg (numOf 64) (by simp [Lib.leNat]))), below_then (below_drew (below_drew (below_drew (below_drew (below_alloc (Below.refl _ _) _))))) (by simp) hb⟩

set_option maxHeartbeats 1000000 in
theorem read14 (b0 b1 b2 b3 b4 b5 : UInt8) (W : World) (g c : Nat) (hg : Glob W) (hc : 6 ≤ c) (c0 : W.cell? ⟨g, 0, none⟩ = some (.int .u8 b0.toNat)) (c1 : W.cell? ⟨g, 1, none⟩ = some (.int .u8 b1.toNat)) (c2 : W.cell? ⟨g, 2, none⟩ = some (.int .u8 b2.toNat)) (c3 : W.cell? ⟨g, 3, none⟩ = some (.int .u8 b3.toNat)) (c4 : W.cell? ⟨g, 4, none⟩ = some (.int .u8 b4.toNat)) (c5 : W.cell? ⟨g, 5, none⟩ = some (.int .u8 b5.toNat)) :
    Calls Tryd.prog 17 #[.int .i64 14, .slice (some ⟨g, 0, none⟩) 6 c] W fun e w' => e = .returned (.int .u64 (numOf 64 (Lib.leNat [b0, b1, b2, b3, b4, b5]))) ∧ Below W.heap.size W w' := by
  have hz : W.cell? ⟨0, 14, none⟩ = some (.int .i64 6) := hg 14 (by omega)
  clear hg
  have u0 := b0.toNat_lt
  have u1 := b1.toNat_lt
  have u2 := b2.toNat_lt
  have u3 := b3.toNat_lt
  have u4 := b4.toNat_lt
  have u5 := b5.toNat_lt
  have d0 : ∀ o, (W.alloc o).cell? ⟨g, 0, none⟩ = some (.int .u8 b0.toNat) := fun o => pw_cell_below (below_alloc (Below.refl _ _) o) c0
  have d1 : ∀ o, (W.alloc o).cell? ⟨g, 1, none⟩ = some (.int .u8 b1.toNat) := fun o => pw_cell_below (below_alloc (Below.refl _ _) o) c1
  have d2 : ∀ o, (W.alloc o).cell? ⟨g, 2, none⟩ = some (.int .u8 b2.toNat) := fun o => pw_cell_below (below_alloc (Below.refl _ _) o) c2
  have d3 : ∀ o, (W.alloc o).cell? ⟨g, 3, none⟩ = some (.int .u8 b3.toNat) := fun o => pw_cell_below (below_alloc (Below.refl _ _) o) c3
  have d4 : ∀ o, (W.alloc o).cell? ⟨g, 4, none⟩ = some (.int .u8 b4.toNat) := fun o => pw_cell_below (below_alloc (Below.refl _ _) o) c4
  have d5 : ∀ o, (W.alloc o).cell? ⟨g, 5, none⟩ = some (.int .u8 b5.toNat) := fun o => pw_cell_below (below_alloc (Below.refl _ _) o) c5
  go_enter Tryd.func17, Tryd.ntmps17
  go_wp2
  go_end0
  go_wp2
  go_region
  go_wp2
  go_region
  go_wp2
  go_region
  go_wp2
  clear d0 d1 d2 d3 d4 d5
  go_region_with (go_at_call 76; refine (Tryd.binary_LE_Uint64 _ 0 _ _ b0 b1 b2 b3 b4 b5 0 0 _ (by omega) (by simp [go_sem]) (by simp [go_sem]) (by simp [go_sem]) (by simp [go_sem]) (by simp [go_sem]) (by simp [go_sem]) (by simp [go_sem]) (by simp [go_sem])).mono ?_; rintro e w1 ⟨rfl, hb⟩)
  all_goals go_wp2
  all_goals go_simp
  all_goals go_wp2
  all_goals go_ret
  all_goals exact ⟨ret_int ((n64 (Lib.leNat [b0, b1, b2, b3, b4, b5, 0, 0])).symm.trans (congrArg (numOf 64) (by simp [Lib.leNat]))), below_then (below_drew (below_drew (below_drew (below_drew (below_alloc (Below.refl _ _) _))))) (by simp) hb⟩
end Go.Proofs.YthicaehcoingeaaDoor.PVL
