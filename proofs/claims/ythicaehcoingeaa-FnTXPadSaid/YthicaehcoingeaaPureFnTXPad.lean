/-
  FnTXPad, the statement over lists alone: a text is cut off, or filled with another one, ahead of it or behind it, so that it has so many bytes. No condition beyond the guards of the law itself.
-/
import Derived.Test.YthicaehcoingeaaPTX1
import Derived.OpenShut
namespace Go.Proofs.Ythicaehcoingeaa.Pure
open Go.RowKit Go.Proofs.Ythicaehcoingeaa.PTX Go.Proofs.YthicaehcoingeaaW.PrintWords Go.Proofs.YthicaehcoingeaaW.PrintLast

theorem wrap_id (i : Int) (h : -9223372036854775808 ≤ i) (h1 : i ≤ 9223372036854775807) : wrap64 i = i := by unfold wrap64; omega

theorem plain_ends (l : List Int) (_hl : l.length ≤ 140737488351232) (d : Nat) : ∀ (k : Nat) (s : ByteArray) (i : Int), 0 ≤ i → i ≤ 40 → 40 - i = d → s.size = i.toNat → d < k →
    ∃ r, laws_txPlain.l0 k l s i = some r ∧ r.size ≤ 40 := by
  induction d with
  | zero =>
    intro k s i h0 h1 hd hs hk
    obtain ⟨k, rfl⟩ : ∃ m, k = m + 1 := ⟨k - 1, by omega⟩
    simp only [laws_txPlain.l0]
    rw [if_neg (show ¬ i < 40 by omega)]
    by_cases h : i < (l.length : Int)
    · rw [if_pos h]; exact ⟨s, rfl, by omega⟩
    · rw [if_neg h]; exact ⟨s, rfl, by omega⟩
  | succ d ih =>
    intro k s i h0 h1 hd hs hk
    obtain ⟨k, rfl⟩ : ∃ m, k = m + 1 := ⟨k - 1, by omega⟩
    simp only [laws_txPlain.l0]
    by_cases h : i < (l.length : Int)
    · rw [if_pos h, if_pos (show i < 40 by omega), if_pos h0]
      simp only [Option.bind_some]
      have hone : (strOfNums [(32 + Int.tmod (rd l i) 95) % 256]).size = 1 := rfl
      rw [if_pos (by rw [hone]; omega), wrap_id _ (by omega) (by omega)]
      exact ih k _ (i + 1) (by omega) (by omega) (by omega) (by rw [ByteArray.size_append, hone]; omega) (by omega)
    · rw [if_neg h]; exact ⟨s, rfl, by omega⟩

theorem plain_some (l : List Int) (hl : l.length ≤ 140737488351232) : ∃ r, (∀ k, 41 ≤ k → laws_txPlain.f k l = some r) ∧ r.size ≤ 40 := by
  obtain ⟨r, hr, hs⟩ := plain_ends l hl 40 41 ⟨#[]⟩ 0 (by omega) (by omega) (by omega) rfl (by omega)
  refine ⟨r, fun k hk => ?_, hs⟩
  exact at_rounds (g := fun k => laws_txPlain.f k l) (laws_txPlain.mono l) hk hr

theorem spec_ends (left : Bool) (s p : ByteArray) (n : Nat) (hn : s.size < n) (hn1 : n ≤ 1000) (hp : 0 < p.size) (hp1 : p.size ≤ 1000) (d : Nat) : ∀ (k j : Nat) (m : ByteArray), m.data.toList = rep p.data.toList j →
    j ≤ 1000 → 1000 - j = d → d < k → spec_TXPad.l0 k left s n p m = some ⟨(padL left s.data.toList n p.data.toList).toArray⟩ := by
  have hs0 : s.data.toList.length = s.size := rfl
  have hp0 : p.data.toList.length = p.size := rfl
  have fin : ∀ (k j : Nat) (m : ByteArray), m.data.toList = rep p.data.toList j → j ≤ 1000 → n - s.size ≤ m.size → m.size = j * p.size → spec_TXPad.l0 (k + 1) left s n p m = some ⟨(padL left s.data.toList n p.data.toList).toArray⟩ := by
    intro k j m hm hj hge hms
    have hmb := Nat.mul_le_mul hj hp1
    have hw : wrap64 ((n : Int) - (s.size : Int)) = ((n - s.size : Nat) : Int) := by rw [wrap_id _ (by omega) (by omega)]; omega
    have hcut : m.extract 0 (n - s.size) = ⟨(fillL p.data.toList (n - s.size)).toArray⟩ := by
      rw [take_ba, hm, fill_of _ _ _ hp (by rw [hp0, ← hms]; exact hge)]
    have hcs : (⟨(fillL p.data.toList (n - s.size)).toArray⟩ : ByteArray).size = n - s.size := by
      show (fillL p.data.toList (n - s.size)).length = _
      exact fillL_len _ _ hp
    have hnn : ¬ n ≤ s.size := by omega
    simp only [spec_TXPad.l0]
    rw [hw, if_neg (by omega), if_pos (by omega), if_pos (by omega), Int.toNat_natCast, hcut]
    cases left
    · rw [if_neg (by decide), if_pos (by rw [hcs]; omega)]
      congr 1
      apply ba_ext
      simp [padL, hnn]
    · rw [if_pos rfl, if_pos (by rw [hcs]; omega)]
      congr 1
      apply ba_ext
      simp [padL, hnn]
  induction d with
  | zero =>
    intro k j m hm hj hd hk
    obtain ⟨k, rfl⟩ : ∃ m, k = m + 1 := ⟨k - 1, by omega⟩
    have hms : m.size = j * p.size := by
      have := congrArg List.length hm
      rw [rep_len] at this; exact this
    have : j = 1000 := by omega
    subst this
    have := Nat.mul_le_mul (Nat.le_refl 1000) hp
    exact fin k 1000 m hm (by omega) (by omega) hms
  | succ d ih =>
    intro k j m hm hj hd hk
    obtain ⟨k, rfl⟩ : ∃ m, k = m + 1 := ⟨k - 1, by omega⟩
    have hms : m.size = j * p.size := by
      have := congrArg List.length hm
      rw [rep_len] at this; exact this
    have hmb := Nat.mul_le_mul hj hp1
    by_cases h : m.size < n - s.size
    · have hw : wrap64 ((n : Int) - (s.size : Int)) = ((n - s.size : Nat) : Int) := by rw [wrap_id _ (by omega) (by omega)]; omega
      simp only [spec_TXPad.l0]
      rw [hw, if_pos (by omega), if_pos (by omega)]
      exact ih k (j + 1) _ (by rw [rep_succ, ← hm]; simp) (by omega) (by omega) (by omega)
    · exact fin k j m hm hj (by omega) hms

theorem spec_some (left : Bool) (s p : ByteArray) (n : Nat) (hn1 : n ≤ 1000) (hp : 0 < p.size) (hp1 : p.size ≤ 1000) (k : Nat) (hk : 1001 ≤ k) :
    spec_TXPad.f k left s n p = some ⟨(padL left s.data.toList n p.data.toList).toArray⟩ := by
  unfold spec_TXPad.f
  by_cases h : n ≤ s.size
  · have hl : n ≤ s.data.toList.length := h
    rw [if_pos (by omega), if_pos (by omega), Int.toNat_natCast, take_ba, padL, if_pos hl]
  · rw [if_neg (by omega)]
    exact spec_ends left s p n (by omega) hn1 hp hp1 1000 k 0 ⟨#[]⟩ (by simp [rep]) (by omega) (by omega) (by omega)

theorem FnTXPad : laws_FnTXPad.Pure := by
  intro left l1 l2 a3 h1 h2 h3 h4 h5 h6 h7
  obtain ⟨s, hs, hs1⟩ := plain_some l1 (by omega)
  obtain ⟨p, hp, hp1⟩ := plain_some l2 (by omega)
  have hb := bounds_u8 h7
  have hn : Int.tmod (wrap64 a3) 100 = ((a3 % 100).toNat : Nat) := by
    rw [wrap_id _ (by omega) (by omega), Int.tmod_eq_emod_of_nonneg hb.1]; omega
  have key : ∀ b : Bool, laws_FnTXPad.j0 1002 left l1 l2 a3 b = some true := by
    intro b
    simp only [laws_FnTXPad.j0]
    cases b
    · rw [if_neg (by decide), hs 1001 (by omega)]
      simp only [Option.bind_some]
      rw [hp 1001 (by omega)]
      simp only [Option.bind_some]
      by_cases he : p.toList = []
      · rw [if_pos he]
      · rw [if_neg he, hn]
        have hp0 : 0 < p.size := by
          rcases Nat.eq_zero_or_pos p.size with h | h
          · obtain rfl : p = ⟨#[]⟩ := ba_ext (List.eq_nil_of_length_eq_zero h)
            exact absurd (by simp [ByteArray.toList, ByteArray.toList.loop, ByteArray.size]) he
          · exact h
        have hi : impl_TXPad.f left s ((a3 % 100).toNat : Nat) p = some (⟨(padL left s.data.toList (a3 % 100).toNat p.data.toList).toArray⟩, true) := by
          unfold impl_TXPad.f
          rw [if_pos ⟨by omega, by omega, by omega, hp0, by omega⟩, Int.toNat_natCast]
        rw [hi]
        simp only [Option.bind_some, if_true]
        rw [spec_some left s p _ (by omega) hp0 (by omega) 1001 (by omega)]
        simp
    · rw [if_pos rfl]
  refine ⟨1002, ?_⟩
  unfold laws_FnTXPad.f
  split <;> exact key _

end Go.Proofs.Ythicaehcoingeaa.Pure
