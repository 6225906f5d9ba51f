/-
  What the three questions come to: bits and lists, plain.
-/
import Derived.Test.YtlghbhkpdlkhjaaDoorISi
namespace Go.Proofs.YtlghbhkpdlkhjaaDoor.PIS
set_option linter.unusedVariables false

theorem Bits.bit {m : Nat} {l : List Int} (h : Bits m 64 l) (j : Nat) (hj : j < 64) : m.testBit j = true ↔ (j : Int) ∈ l := by
  rw [h (j : Int)]
  constructor
  · exact fun h => ⟨j, rfl, hj, h⟩
  · rintro ⟨i, h1, _, h3⟩
    obtain rfl : j = i := by omega
    exact h3
theorem Bits.to {m : Nat} {l : List Int} (hm : m < 18446744073709551616) (h : Bits m 64 l) : BitsTo m 64 l := fun j => by
  rcases Nat.lt_or_ge j 64 with hj | hj
  · rw [h.bit j hj]
    exact ⟨fun h => ⟨h, hj⟩, fun h => h.1⟩
  · rw [testBit_ge m hm j hj]
    simp
    omega
theorem BitsTo.bits {m : Nat} {l : List Int} (h : BitsTo m 64 l) (h0 : ∀ x ∈ l, 0 ≤ x) (h1 : (l.any fun x => decide (64 ≤ x)) = false) : Bits m 64 l := fun y => by
  constructor
  · intro hy
    have h2 := List.any_eq_false.1 h1 y hy
    simp only [decide_eq_true_eq] at h2
    have h3 := h0 y hy
    exact ⟨y.toNat, by omega, by omega, (h y.toNat).2 ⟨by rwa [show ((y.toNat : Nat) : Int) = y by omega], by omega⟩⟩
  · rintro ⟨j, rfl, _, h2⟩
    exact ((h j).1 h2).1
theorem eq_bits {m1 m2 : Nat} {a b : List Int} (hm1 : m1 < 18446744073709551616) (hm2 : m2 < 18446744073709551616) (h1 : Bits m1 64 a) (h2 : Bits m2 64 b) (sa : a.Pairwise (· < ·)) (sb : b.Pairwise (· < ·)) : ((m1 : Int) == (m2 : Int)) = decide (a = b) := by
  rw [Bool.eq_iff_iff, beq_iff_eq, decide_eq_true_iff]
  constructor
  · intro h
    obtain rfl : m1 = m2 := by omega
    exact sorted_ext a b sa sb (fun y => by rw [h1 y, h2 y])
  · rintro rfl
    have : m1 = m2 := Nat.eq_of_testBit_eq fun j => by
      rcases Nat.lt_or_ge j 64 with hj | hj
      · rw [Bool.eq_iff_iff, h1.bit j hj, h2.bit j hj]
      · rw [testBit_ge m1 hm1 j hj, testBit_ge m2 hm2 j hj]
    rw [this]
theorem eq_mixed {m1 m2 : Nat} {a b : List Int} (hm1 : m1 < 18446744073709551616) (hm2 : m2 < 18446744073709551616) (h1 : Bits m1 64 a) (h2 : BitsTo m2 64 b) (sa : a.Pairwise (· < ·)) (sb : b.Pairwise (· < ·)) (hb : ∀ x ∈ b, 0 ≤ x) : (!(b.any fun x => decide (64 ≤ x)) && ((m1 : Int) == (m2 : Int))) = decide (a = b) := by
  cases hany : (b.any fun x => decide (64 ≤ x))
  · exact eq_bits hm1 hm2 h1 (h2.bits hb hany) sa sb
  · rw [Bool.not_true, Bool.false_and]
    symm
    rw [decide_eq_false_iff_not]
    rintro rfl
    obtain ⟨x, hx, h⟩ := List.any_eq_true.1 hany
    obtain ⟨j, rfl, hj, _⟩ := (h1 x).1 hx
    simp at h
    omega
theorem eq_lists {a b : List Int} (sa : a.Pairwise (· < ·)) (sb : b.Pairwise (· < ·)) : (decide (a.length = b.length) && a.all fun x => hasB x b) = decide (a = b) := by
  rw [Bool.eq_iff_iff, Bool.and_eq_true, decide_eq_true_iff, decide_eq_true_iff, List.all_eq_true]
  constructor
  · rintro ⟨hl, hs⟩
    have hsub : a ⊆ b := fun x hx => (hasB_iff x b sb).1 (hs x hx)
    have na : a.Nodup := sa.imp (fun h => Int.ne_of_lt h)
    have nb : b.Nodup := sb.imp (fun h => Int.ne_of_lt h)
    refine sorted_ext a b sa sb (fun y => ⟨fun h => hsub h, fun hy => ?_⟩)
    apply Classical.byContradiction
    intro hn
    have h1 : (y :: a).Nodup := List.nodup_cons.2 ⟨hn, na⟩
    have h2 : (y :: a) ⊆ b := fun z hz => by
      rcases List.mem_cons.1 hz with rfl | hz
      · exact hy
      · exact hsub hz
    have := h1.length_le_of_subset h2
    simp at this
    omega
  · rintro rfl
    exact ⟨rfl, fun x hx => (hasB_iff x a sb).2 hx⟩
theorem and_bit (m1 m2 j : Nat) : (m1 &&& m2).testBit j = true ↔ m1.testBit j = true ∧ m2.testBit j = true := by
  rw [Nat.testBit_and, Bool.and_eq_true]
theorem sub_bits {m1 m2 : Nat} {a b : List Int} (hm1 : m1 < 18446744073709551616) (h1 : Bits m1 64 a) (h2 : BitsTo m2 64 b) : (((m1 &&& m2 : Nat) : Int) == (m1 : Int)) = decide (∀ x ∈ a, x ∈ b) := by
  rw [Bool.eq_iff_iff, beq_iff_eq, decide_eq_true_iff]
  constructor
  · intro h x hx
    have e : m1 &&& m2 = m1 := by omega
    obtain ⟨j, rfl, hj, hb⟩ := (h1 x).1 hx
    rw [← e, and_bit] at hb
    exact ((h2 j).1 hb.2).1
  · intro h
    have : m1 &&& m2 = m1 := Nat.eq_of_testBit_eq fun j => by
      rw [Bool.eq_iff_iff, and_bit]
      refine ⟨fun h => h.1, fun hb => ⟨hb, ?_⟩⟩
      rcases Nat.lt_or_ge j 64 with hj | hj
      · exact (h2 j).2 ⟨h _ ((h1.bit j hj).1 hb), hj⟩
      · rw [testBit_ge m1 hm1 j hj] at hb; cases hb
    rw [this]
theorem sub_any {m1 : Nat} {a b : List Int} (h2 : Bits m1 64 b) (h : (a.any fun x => decide (64 ≤ x)) = true) : decide (∀ x ∈ a, x ∈ b) = false := by
  rw [decide_eq_false_iff_not]
  intro hs
  obtain ⟨x, hx, h3⟩ := List.any_eq_true.1 h
  obtain ⟨j, rfl, hj, _⟩ := (h2 x).1 (hs x hx)
  simp at h3
  omega
theorem sub_lists {a b : List Int} (sb : b.Pairwise (· < ·)) : (a.all fun x => hasB x b) = decide (∀ x ∈ a, x ∈ b) := by
  rw [Bool.eq_iff_iff, decide_eq_true_iff, List.all_eq_true]
  exact ⟨fun h x hx => (hasB_iff x b sb).1 (h x hx), fun h x hx => (hasB_iff x b sb).2 (h x hx)⟩
theorem meet_bits {m1 m2 : Nat} {a b : List Int} (hm1 : m1 < 18446744073709551616) (h1 : Bits m1 64 a) (h2 : BitsTo m2 64 b) : (((m1 &&& m2 : Nat) : Int) != 0) = decide (∃ x ∈ a, x ∈ b) := by
  rw [Bool.eq_iff_iff, bne_iff_ne, decide_eq_true_iff]
  constructor
  · intro h
    have hne : m1 &&& m2 ≠ 0 := by omega
    obtain ⟨j, hj⟩ := Nat.exists_testBit_of_ne_zero hne
    rw [and_bit] at hj
    have h3 := (h2 j).1 hj.2
    exact ⟨j, (h1.bit j h3.2).1 hj.1, h3.1⟩
  · rintro ⟨x, hx, hb⟩ h
    obtain ⟨j, rfl, hj, hbit⟩ := (h1 x).1 hx
    have e : m1 &&& m2 = 0 := by omega
    have h3 := (and_bit m1 m2 j).2 ⟨hbit, (h2 j).2 ⟨hb, hj⟩⟩
    rw [e] at h3
    simp at h3
theorem meet_lists {a b : List Int} (sb : b.Pairwise (· < ·)) : (a.any fun x => hasB x b) = decide (∃ x ∈ a, x ∈ b) := by
  rw [Bool.eq_iff_iff, decide_eq_true_iff, List.any_eq_true]
  constructor
  · rintro ⟨x, h1, h2⟩
    exact ⟨x, h1, (hasB_iff x b sb).1 h2⟩
  · rintro ⟨x, h1, h2⟩
    exact ⟨x, h1, (hasB_iff x b sb).2 h2⟩
end Go.Proofs.YtlghbhkpdlkhjaaDoor.PIS
