/-
  A number of 24 bits, with a sign or without, is written as its three bytes, the lowest one first: the plain law. No condition.
-/
import Derived.Test.YthicaehcoingeaaDoorPVM2
namespace Go.Proofs.YthicaehcoingeaaDoor.Pure
open Go.RowKit Go.Proofs.YthicaehcoingeaaDoor.PVM Go.Proofs.YthicaehcoingeaaDoorW.PrintWords Go.Proofs.YthicaehcoingeaaDoorW.PrintLast
set_option linter.unusedVariables false
set_option linter.unusedSimpArgs false

theorem size56 (a : Int) (h : a = 5 ∨ a = 6) : spec_VLSize.f a = some 3 := by
  rcases h with rfl | rfl <;> rfl
theorem bytes56 (a b : Int) (h : a = 5 ∨ a = 6) (h0 : 0 ≤ b) (h1 : b ≤ 18446744073709551615) : spec_VLBytes.f 10 a b = some (threeL b) := by
  unfold spec_VLBytes.f threeL
  simp [spec_VLBytes.l0, size56 a h, wrap64, IntKind.wrap_u64, shr, IntKind.bits]
theorem signed5 : spec_VLSigned.f 5 = some true := by simp [spec_VLSigned.f]
theorem signed6 : spec_VLSigned.f 6 = some false := by simp [spec_VLSigned.f]
theorem number6 (x y z : Int) (hx : 0 ≤ x ∧ x < 256) (hy : 0 ≤ y ∧ y < 256) (hz : 0 ≤ z ∧ z < 256) : spec_VLNumber.f 10 6 [x, y, z] = some (x + 256 * y + 65536 * z) := by
  unfold spec_VLNumber.f
  simp [spec_VLNumber.l0, signed6, wrap64, IntKind.wrap_u64, rd]
  omega
theorem number5 (x y z : Int) (hx : 0 ≤ x ∧ x < 256) (hy : 0 ≤ y ∧ y < 256) (hz : 0 ≤ z ∧ z < 256) : spec_VLNumber.f 10 5 [x, y, z] = some (if z < 128 then x + 256 * y + 65536 * z else 18446744073709551616 - 16777216 + (x + 256 * y + 65536 * z)) := by
  unfold spec_VLNumber.f
  simp [spec_VLNumber.l0, signed5, wrap64, IntKind.wrap_u64, rd, shl, shr, IntKind.bits]
  split <;> split <;> simp only [Option.some.injEq] <;> omega
theorem three_back (n b : Int) (h : n % 16777216 = b % 16777216) : threeL n = threeL b := by
  simp only [threeL, List.cons.injEq, and_true]
  omega
theorem write_some (k n b : Int) (hk : k = 5 ∨ k = 6) (h0 : 0 ≤ n) (h1 : n ≤ 18446744073709551615) (h : n % 16777216 = b % 16777216) : impl_VLWrite.f k n = some (threeL b) := by
  unfold impl_VLWrite.f
  rw [if_pos ⟨hk, h0, h1⟩, three_back n b h]
theorem FnVLThree : laws_FnVLThree.Pure := by
  intro a0 b w1
  have hb : 0 ≤ b ∧ b ≤ 18446744073709551615 := by
    simp only [Lit.wf, Bool.and_eq_true, decide_eq_true_eq] at w1
    have h1 : IntKind.u64.min = 0 := by decide
    have h2 : IntKind.u64.max = 18446744073709551615 := by decide
    omega
  refine ⟨10, ?_⟩
  unfold laws_FnVLThree.f laws_vlCut.f
  rw [bytes56 5 b (.inl rfl) hb.1 hb.2, bytes56 6 b (.inr rfl) hb.1 hb.2]
  simp only [Option.bind_some]
  have e : threeL b = [b % 256, b / 256 % 256, b / 65536 % 256] := rfl
  rw [e, number5 _ _ _ (by omega) (by omega) (by omega), number6 _ _ _ (by omega) (by omega) (by omega)]
  simp only [Option.bind_some]
  rw [write_some 5 _ b (.inl rfl) (by split <;> omega) (by split <;> omega) (by split <;> omega), write_some 6 _ b (.inr rfl) (by omega) (by omega) (by omega), e]
  simp only [Option.bind_some, beq_self_eq_true, ite_self]

end Go.Proofs.YthicaehcoingeaaDoor.Pure
