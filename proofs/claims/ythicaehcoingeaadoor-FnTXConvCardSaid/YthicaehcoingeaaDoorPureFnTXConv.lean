/-
  A number that is written in a base is written in another one, in capital letters, and back: the plain law. No condition.
-/
import Derived.Test.YthicaehcoingeaaDoorPTV1
import Derived.OpenShut
namespace Go.Proofs.YthicaehcoingeaaDoor.Pure
open Go.RowKit Go.Proofs.YthicaehcoingeaaDoor.PTV Go.Proofs.YthicaehcoingeaaDoorW.PrintWords Go.Proofs.YthicaehcoingeaaDoorW.PrintLast
set_option linter.unusedVariables false
set_option maxRecDepth 100000

theorem wrap_id (i : Int) (h : -9223372036854775808 ≤ i) (h1 : i ≤ 9223372036854775807) : wrap64 i = i := by unfold wrap64; omega
def LIT : ByteArray := ⟨#[48, 49, 50, 51, 52, 53, 54, 55, 56, 57, 65, 66, 67, 68, 69, 70, 71, 72, 73, 74, 75, 76, 77, 78, 79, 80, 81, 82, 83, 84, 85, 86, 87, 88, 89, 90]⟩
theorem lit_cap : ∀ d : Fin 36, (LIT.extract d.val (d.val + 1)).data.toList = [Lib.upperB (sd d.val)] := by decide +kernel
theorem of_list (s : ByteArray) (l : List UInt8) (h : s.data.toList = l) : s = ⟨l.toArray⟩ := by
  cases s with | mk d => cases d with | mk t => simp at h; subst h; rfl
/-- one round of spec.TXDigits at a digit -/
theorem digit_at (m b : Nat) (hm : m < 18446744073709551616) (hb2 : 2 ≤ b) (hb36 : b ≤ 36) :
    IntKind.u64.wrap (b : Int) = b ∧ Int.tmod (m : Int) (b : Int) = ((m % b : Nat) : Int) ∧ IntKind.u64.wrap (((m % b : Nat) : Int) + 1) = ((m % b + 1 : Nat) : Int) ∧ IntKind.u64.wrap (Int.tdiv (m : Int) (b : Int)) = ((m / b : Nat) : Int) ∧ m % b < 36 := by
  have h1 : m % b < b := Nat.mod_lt _ (by omega)
  have h2 : m / b ≤ m := Nat.div_le_self _ _
  refine ⟨u64_wrap_id _ (by omega) (by omega), ?_, ?_, ?_, by omega⟩
  · exact (Int.ofNat_tmod m b).symm
  · rw [u64_wrap_id _ (by omega) (by omega)]; push_cast; rfl
  · have e : Int.tdiv (m : Int) (b : Int) = ((m / b : Nat) : Int) := (Int.ofNat_tdiv m b).symm
    rw [e]
    generalize m / b = q at h2 ⊢
    exact u64_wrap_id _ (by omega) (by omega)
theorem round_pos (K m b : Nat) (acc : ByteArray) (hm0 : 0 < m) (hm : m < 18446744073709551616) (hb2 : 2 ≤ b) (hb36 : b ≤ 36) (ha : acc.size ≤ 1000) :
    spec_TXDigits.l0 (K + 1) m b acc = spec_TXDigits.l0 K ((m / b : Nat) : Int) b (LIT.extract (m % b) (m % b + 1) ++ acc) := by
  obtain ⟨e1, e2, e3, e4, e5⟩ := digit_at m b hm hb2 hb36
  have hs : (LIT.extract (m % b) (m % b + 1)).size = 1 := by
    have : (LIT.extract (m % b) (m % b + 1)).size = (LIT.extract (m % b) (m % b + 1)).data.toList.length := rfl
    rw [this, lit_cap ⟨m % b, e5⟩]; rfl
  conv => lhs; unfold spec_TXDigits.l0
  rw [if_pos (by omega : (m : Int) > 0), e1, e2, e3, e4, if_neg (by omega), if_pos (by omega), if_pos (by omega), if_pos (by omega)]
  simp only [Int.toNat_natCast]
  rw [show (⟨#[48, 49, 50, 51, 52, 53, 54, 55, 56, 57, 65, 66, 67, 68, 69, 70, 71, 72, 73, 74, 75, 76, 77, 78, 79, 80, 81, 82, 83, 84, 85, 86, 87, 88, 89, 90]⟩ : ByteArray) = LIT from rfl, hs, if_pos (by omega)]
theorem round_zero (K b : Nat) (hb2 : 2 ≤ b) (hb36 : b ≤ 36) :
    spec_TXDigits.l0 (K + 1) ((0 : Nat) : Int) b (⟨#[]⟩ : ByteArray) = spec_TXDigits.l0 K ((0 : Nat) : Int) b (LIT.extract 0 1 ++ (⟨#[]⟩ : ByteArray)) := by
  obtain ⟨e1, e2, e3, e4, e5⟩ := digit_at 0 b (by omega) hb2 hb36
  rw [Nat.zero_mod] at e2 e3
  rw [Nat.zero_div] at e4
  conv => lhs; unfold spec_TXDigits.l0
  rw [if_neg (by decide), if_pos (by decide +kernel : (⟨#[]⟩ : ByteArray).toList = ([] : List UInt8)), e1, e2, e3, e4, if_neg (by omega), if_pos (by decide), if_pos (by decide), if_pos (by decide)]
  rw [if_pos (by decide +kernel)]
  rfl
theorem round_end (K b : Nat) (acc : ByteArray) (ha : acc.data.toList ≠ []) : spec_TXDigits.l0 (K + 1) ((0 : Nat) : Int) b acc = some acc := by
  conv => lhs; unfold spec_TXDigits.l0
  rw [if_neg (by decide), if_neg (by rw [ByteArray.toList_eq]; exact ha)]
theorem digits_go (b : Nat) (hb2 : 2 ≤ b) (hb36 : b ≤ 36) : ∀ (j m : Nat) (acc : ByteArray) (K : Nat), m < b ^ j → 0 < m → m < 18446744073709551616 → j + 1 ≤ K → acc.size + j ≤ 1000 →
    spec_TXDigits.l0 K m b acc = some ⟨(Lib.toUpperA (digs b j m) ++ acc.data.toList).toArray⟩
  | 0, m, acc, K, h, h0, _, _, _ => absurd h (by simp; omega)
  | j + 1, m, acc, K, h, h0, hm, hK, ha => by
    obtain ⟨K, rfl⟩ : ∃ k, K = k + 1 := ⟨K - 1, by omega⟩
    have e5 := (digit_at m b hm hb2 hb36).2.2.2.2
    have hl := lit_cap ⟨m % b, e5⟩
    simp only at hl
    rw [round_pos K m b acc h0 hm hb2 hb36 (by omega)]
    have hlist : (LIT.extract (m % b) (m % b + 1) ++ acc).data.toList = [Lib.upperB (sd (m % b))] ++ acc.data.toList := by
      rw [ByteArray.data_append, Array.toList_append, hl]
    have hsz : (LIT.extract (m % b) (m % b + 1) ++ acc).size = 1 + acc.size := by
      have : (LIT.extract (m % b) (m % b + 1) ++ acc).size = (LIT.extract (m % b) (m % b + 1) ++ acc).data.toList.length := rfl
      rw [this, hlist, List.length_append]; rfl
    unfold digs
    by_cases hmb : m < b
    · rw [if_pos hmb, Nat.div_eq_of_lt hmb]
      obtain ⟨K, rfl⟩ : ∃ k, K = k + 1 := ⟨K - 1, by omega⟩
      rw [round_end K b _ (by rw [hlist]; simp)]
      congr 1
      rw [of_list _ _ hlist, Nat.mod_eq_of_lt hmb]
      rfl
    · rw [if_neg hmb]
      rw [digits_go b hb2 hb36 j (m / b) _ K (by apply Nat.div_lt_of_lt_mul; rw [Nat.mul_comm, ← Nat.pow_succ]; exact h) (Nat.div_pos (by omega) (by omega)) (Nat.lt_of_le_of_lt (Nat.div_le_self _ _) hm) (by omega) (by rw [hsz]; omega)]
      rw [hlist]
      congr 2
      unfold Lib.toUpperA
      rw [List.map_append]
      simp
theorem digits_ok (b m : Nat) (hb2 : 2 ≤ b) (hb36 : b ≤ 36) (hm : m < 9223372036854775808) : spec_TXDigits.f 100 m b = some ⟨(caps b m).toArray⟩ := by
  unfold spec_TXDigits.f
  rcases Nat.eq_zero_or_pos m with rfl | h0
  · rw [round_zero 99 b hb2 hb36, round_end 98 b _ (by decide +kernel)]
    congr 1
    refine of_list _ _ ?_
    show _ = Lib.toUpperA (digs b 64 0)
    have : digs b 64 0 = [sd 0] := by
      show (if 0 < b then [sd 0] else _) = _
      rw [if_pos (by omega)]
    rw [this]
    decide +kernel
  · have hp : m < b ^ 64 := Nat.lt_of_lt_of_le (Nat.lt_trans hm (by decide : 9223372036854775808 < 2 ^ 64)) (Nat.pow_le_pow_left hb2 64)
    rw [digits_go b hb2 hb36 64 m _ 100 hp h0 (by omega) (by omega) (by decide)]
    simp [caps]
theorem conv_ok (a b m : Nat) (ha2 : 2 ≤ a) (ha36 : a ≤ 36) (hb2 : 2 ≤ b) (hb36 : b ≤ 36) (hm : m < 9223372036854775808) :
    impl_TXConv.f ⟨(caps a m).toArray⟩ a b = some (⟨(caps b m).toArray⟩, true) := by
  have hp : m < a ^ 64 := Nat.lt_of_lt_of_le (Nat.lt_trans hm (by decide : 9223372036854775808 < 2 ^ 64)) (Nat.pow_le_pow_left ha2 64)
  have hl : (⟨(caps a m).toArray⟩ : ByteArray).data.toList = caps a m := rfl
  have hv : PTV.valOf a (caps a m) = m := valOf_digs a ha2 ha36 64 m hp
  unfold impl_TXConv.f
  rw [hl, Int.toNat_natCast, Int.toNat_natCast, hv, if_pos ⟨⟨by omega, by omega, by omega, by omega⟩, hm, rfl⟩]
theorem base_of (x : Int) (h0 : 0 ≤ x) (h1 : x ≤ 255) : ∃ b : Nat, wrap64 (2 + Int.tmod (wrap64 x) 35) = (b : Int) ∧ 2 ≤ b ∧ b ≤ 36 := by
  rw [wrap_id x (by omega) (by omega)]
  have e : Int.tmod x 35 = x % 35 := Int.tmod_eq_emod_of_nonneg h0
  rw [e, wrap_id _ (by omega) (by omega)]
  exact ⟨(2 + x % 35).toNat, by omega, by omega, by omega⟩
theorem FnTXConv : laws_FnTXConv.Pure := by
  intro a0 a1 a2 w0 w1 w2
  have h0 : 0 ≤ a0 ∧ a0 ≤ 18446744073709551615 := by
    simp only [Lit.wf, Bool.and_eq_true, decide_eq_true_eq] at w0
    exact w0
  have h1 : 0 ≤ a1 ∧ a1 ≤ 255 := by
    simp only [Lit.wf, Bool.and_eq_true, decide_eq_true_eq] at w1
    exact w1
  have h2 : 0 ≤ a2 ∧ a2 ≤ 255 := by
    simp only [Lit.wf, Bool.and_eq_true, decide_eq_true_eq] at w2
    exact w2
  obtain ⟨a, ea, ha2, ha36⟩ := base_of a1 h1.1 (by omega)
  obtain ⟨b, eb, hb2, hb36⟩ := base_of a2 h2.1 (by omega)
  obtain ⟨m, em, hm⟩ : ∃ m : Nat, a0 / 2 = (m : Int) ∧ m < 9223372036854775808 := ⟨(a0 / 2).toNat, by omega, by omega⟩
  refine ⟨100, ?_⟩
  unfold laws_FnTXConv.f
  rw [ea, eb, em, digits_ok a m ha2 ha36 hm, digits_ok b m hb2 hb36 hm]
  simp only [Option.bind_some]
  rw [conv_ok a b m ha2 ha36 hb2 hb36 hm]
  simp only [Option.bind_some]
  rw [conv_ok b a m hb2 hb36 ha2 ha36 hm]
  simp
end Go.Proofs.YthicaehcoingeaaDoor.Pure
