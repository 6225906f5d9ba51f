/-
  A text in quotation marks is read as the text: the plain law. No condition beyond the guards of the law itself.
-/
import Derived.Test.YthicaehcoingeaaDoorPTQ1
import Derived.OpenShut
namespace Go.Proofs.YthicaehcoingeaaDoor.Pure
open Go.RowKit Go.Proofs.YthicaehcoingeaaDoor.PTQ Go.Proofs.YthicaehcoingeaaDoorW.PrintWords Go.Proofs.YthicaehcoingeaaDoorW.PrintLast
set_option linter.unusedVariables false

theorem wrap_id (i : Int) (h : -9223372036854775808 ≤ i) (h1 : i ≤ 9223372036854775807) : wrap64 i = i := by unfold wrap64; omega

theorem one_byte (x : Int) (h0 : 0 ≤ x) (h1 : x ≤ 255) : (strOfNums [(32 + Int.tmod x 95) % 256]).data.toList.length = 1 ∧ printable (strOfNums [(32 + Int.tmod x 95) % 256]).data.toList = true := by
  have e : Int.tmod x 95 = x % 95 := Int.tmod_eq_emod_of_nonneg h0
  rw [e]
  generalize hy : (32 + x % 95) % 256 = y
  have b0 : 32 ≤ y := by omega
  have b1 : y ≤ 126 := by omega
  refine ⟨rfl, ?_⟩
  simp [strOfNums, printable]
  omega

theorem plain_ends (l : List Int) (hw : ∀ i, 0 ≤ rd l i ∧ rd l i ≤ 255) (d : Nat) : ∀ (k : Nat) (s : ByteArray) (i : Int), 0 ≤ i → i ≤ 40 → 40 - i = d → s.size = i.toNat → d < k → printable s.data.toList = true →
    ∃ r, laws_txPlain.l0 k l s i = some r ∧ r.size ≤ 40 ∧ printable r.data.toList = true := by
  induction d with
  | zero =>
    intro k s i h0 h1 hd hs hk hp
    obtain ⟨k, rfl⟩ : ∃ m, k = m + 1 := ⟨k - 1, by omega⟩
    simp only [laws_txPlain.l0]
    rw [if_neg (show ¬ i < 40 by omega)]
    by_cases h : i < (l.length : Int)
    · rw [if_pos h]; exact ⟨s, rfl, by omega, hp⟩
    · rw [if_neg h]; exact ⟨s, rfl, by omega, hp⟩
  | succ d ih =>
    intro k s i h0 h1 hd hs hk hp
    obtain ⟨k, rfl⟩ : ∃ m, k = m + 1 := ⟨k - 1, by omega⟩
    simp only [laws_txPlain.l0]
    by_cases h : i < (l.length : Int)
    · rw [if_pos h, if_pos (show i < 40 by omega), if_pos h0]
      simp only [Option.bind_some]
      obtain ⟨o1, o2⟩ := one_byte (rd l i) (hw i).1 (hw i).2
      have hone : (strOfNums [(32 + Int.tmod (rd l i) 95) % 256]).size = 1 := rfl
      rw [if_pos (by rw [hone]; omega), wrap_id _ (by omega) (by omega)]
      refine ih k _ (i + 1) (by omega) (by omega) (by omega) (by rw [ByteArray.size_append, hone]; omega) (by omega) ?_
      rw [ByteArray.data_append, Array.toList_append]
      unfold printable at hp o2 ⊢
      rw [List.all_append, hp, o2]; rfl
    · rw [if_neg h]; exact ⟨s, rfl, by omega, hp⟩

theorem unesc_escs : ∀ l : List UInt8, unesc (escs l) = l := by
  intro l
  induction l with
  | nil => rfl
  | cons b r ih =>
    rw [show escs (b :: r) = esc b ++ escs r from rfl]
    by_cases h1 : b = 92
    · subst h1; show unesc (92 :: 92 :: escs r) = _; rw [unesc, if_pos rfl, ih]
    · by_cases h2 : b = 34
      · subst h2; show unesc (92 :: 34 :: escs r) = _; rw [unesc, if_pos rfl, ih]
      · have e : esc b = [b] := by simp [esc, h1, h2]
        rw [e]
        cases hr : escs r with
        | nil =>
          have hr0 : r = [] := by rw [← ih, hr]; rfl
          subst hr0; rfl
        | cons y t =>
          show unesc (b :: y :: t) = _
          rw [unesc, if_neg h1, ← hr, ih]

theorem FnTXQuote : laws_FnTXQuote.Pure := by
  intro l hl hl2 hwf
  by_cases hbig : (l.length : Int) > 2147483647
  · exact ⟨0, by unfold laws_FnTXQuote.f; rw [if_pos hbig]⟩
  have hw : ∀ i, 0 ≤ rd l i ∧ rd l i ≤ 255 := by
    intro i
    unfold rd
    rcases Nat.lt_or_ge i.toNat l.length with h | h
    · rw [List.getD_eq_getElem?_getD, List.getElem?_eq_getElem h]
      exact bounds_u8 (hwf _ (List.getElem_mem h))
    · rw [List.getD_eq_getElem?_getD, List.getElem?_eq_none h]; decide
  obtain ⟨s, hs, hs40, hsp⟩ := plain_ends l hw 40 41 ⟨#[]⟩ 0 (by omega) (by omega) (by omega) rfl (by omega) rfl
  have hq : impl_TXQuote.f s = some ⟨(quoteL s.data.toList).toArray⟩ := by
    unfold impl_TXQuote.f
    rw [if_pos ⟨by omega, hsp⟩]
  have hin : inner (quoteL s.data.toList) = s.data.toList := by
    unfold inner quoteL
    have e : (([34] ++ escs s.data.toList ++ [34]).drop 1).dropLast = escs s.data.toList := by simp
    rw [e, unesc_escs]
  have hlen : s.data.toList.length = s.size := rfl
  have hu : impl_TXUnquote.f ⟨(quoteL s.data.toList).toArray⟩ = some (s, true) := by
    unfold impl_TXUnquote.f
    have e : (⟨(quoteL s.data.toList).toArray⟩ : ByteArray).data.toList = quoteL s.data.toList := rfl
    rw [e, hin, if_pos ⟨rfl, by omega⟩]
  refine ⟨41, ?_⟩
  unfold laws_FnTXQuote.f laws_txPlain.f
  rw [if_neg hbig, hs]
  simp only [Option.bind_some, hq, hu, if_true]
  have hsz : (⟨(quoteL s.data.toList).toArray⟩ : ByteArray).size = (quoteL s.data.toList).length := rfl
  have hge : s.data.toList.length + 2 ≤ (quoteL s.data.toList).length := by
    have h : ∀ l : List UInt8, l.length ≤ (escs l).length := by
      intro l
      induction l with
      | nil => simp [escs]
      | cons b r ih =>
        rw [show escs (b :: r) = esc b ++ escs r from rfl]
        have : 1 ≤ (esc b).length := by unfold esc; split; simp; split <;> simp
        simp only [List.length_append, List.length_cons]; omega
    have := h s.data.toList
    unfold quoteL
    simp only [List.length_append, List.length_cons, List.length_nil]
    omega
  rw [hsz, wrap_id _ (by omega) (by omega)]
  simp only [Option.some.injEq, decide_eq_true_eq]
  omega

end Go.Proofs.YthicaehcoingeaaDoor.Pure
