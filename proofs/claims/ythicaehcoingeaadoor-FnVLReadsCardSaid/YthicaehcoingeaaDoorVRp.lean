/-
  The number that the reference spells of some bytes: the plain law of spec.VLNumber. Condition: at most 8 bytes.
-/
import Derived.Test.YthicaehcoingeaaDoorVRr
namespace Go.Proofs.YthicaehcoingeaaDoor.PVL
open Go.RowKit Go.Proofs.YthicaehcoingeaaDoorW.PrintWords Go.Proofs.YthicaehcoingeaaDoorW.PrintLast Go.Proofs.YthicaehcoingeaaDoorW.PrintMore
set_option linter.unusedVariables false
set_option linter.unusedSimpArgs false

def nat (l : List UInt8) : List Int := l.map fun b => (b.toNat : Int)
theorem le_app (b : UInt8) (l : List UInt8) : Lib.leNat (b :: l) = b.toNat + 256 * Lib.leNat l := rfl
theorem le_pow : ∀ (l : List UInt8), Lib.leNat l < 256 ^ l.length
  | [] => Nat.zero_lt_one
  | b :: r => by
    have h := le_pow r
    have u := b.toNat_lt
    have e : 256 ^ (b :: r).length = 256 ^ r.length * 256 := Nat.pow_succ ..
    rw [e, le_app]
    omega
theorem le_max (l : List UInt8) (h : l.length ≤ 8) : Lib.leNat l < 18446744073709551616 :=
  Nat.lt_of_lt_of_le (le_pow l) (Nat.le_trans (Nat.pow_le_pow_right (by decide) h) (by decide))
theorem rd_nat (pre : List UInt8) (x : UInt8) (suf : List UInt8) : rd (nat (pre ++ x :: suf)) (pre.length : Int) = x.toNat := by
  simp [rd, nat]
/-- The rounds: from the last byte to the first one. -/
theorem number_rounds (kd : Int) : ∀ (r suf : List UInt8) (k : Nat), r.length < k → r.length + suf.length ≤ 8 →
    spec_VLNumber.l0 k kd (nat (r.reverse ++ suf)) (Lib.leNat suf) ((r.length : Int) - 1) = spec_VLNumber.l0 (k - r.length) kd (nat (r.reverse ++ suf)) (Lib.leNat (r.reverse ++ suf)) (-1) := by
  intro r
  induction r with
  | nil => intro suf k hk h; simp
  | cons x r ih =>
    intro suf k hk h
    obtain ⟨k, rfl⟩ : ∃ m, k = m + 1 := ⟨k - 1, by omega⟩
    have e : (x :: r).reverse ++ suf = r.reverse ++ x :: suf := by simp
    have hl : ((x :: r).length : Int) - 1 = r.length := by simp
    have hlen : (nat (r.reverse ++ x :: suf)).length = r.length + suf.length + 1 := by simp [nat]; omega
    have hx := x.toNat_lt
    have hm := le_max (x :: suf) (by simp at h ⊢; omega)
    have hr := rd_nat r.reverse x suf
    rw [List.length_reverse] at hr
    rw [e, hl]
    have step : spec_VLNumber.l0 (k + 1) kd (nat (r.reverse ++ x :: suf)) (Lib.leNat suf) (r.length : Int) = spec_VLNumber.l0 k kd (nat (r.reverse ++ x :: suf)) (Lib.leNat (x :: suf)) ((r.length : Int) - 1) := by
      have hr8 : r.length ≤ 8 := by simp at h; omega
      conv => lhs; unfold spec_VLNumber.l0
      rw [if_pos (by omega), if_pos (by omega), if_pos (by rw [hlen]; omega), hr, IntKind.wrap_u64, IntKind.wrap_u64, IntKind.wrap_u64]
      rw [le_app] at hm
      have e1 : (((Lib.leNat suf : Int) * 256 % 18446744073709551616 + (x.toNat : Int) % 18446744073709551616) % 18446744073709551616) = ((Lib.leNat (x :: suf) : Nat) : Int) := by rw [le_app]; omega
      have e2 : wrap64 ((r.length : Int) - 1) = (r.length : Int) - 1 := by unfold wrap64; omega
      rw [e1, e2]
    rw [step, ih (x :: suf) k (by simp at hk; omega) (by simp at h ⊢; omega)]
    congr 1
    simp
end Go.Proofs.YthicaehcoingeaaDoor.PVL
