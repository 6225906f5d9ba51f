/-
  Plain laws of binary floating point: sums, differences, products and comparisons of small whole numbers are exact.
-/
import Ieee.Arith
namespace Go.Proofs.YtjhgmpeoagndjaaGreat.Flo
open Ieee

/-- The exact value of a magnitude, in parts of 2 ^ -1074. -/
def Q (m : Nat) (e : Int) (z : Nat) : Prop := m * 2 ^ (e + 1074).toNat = z * 2 ^ (-(e + 1074)).toNat
theorem two_pos (n : Nat) : 0 < 2 ^ n := Nat.two_pow_pos n
theorem log2_mul_pow (m a : Nat) (hm : m ≠ 0) : (m * 2 ^ a).log2 = m.log2 + a := by
  apply Nat.le_antisymm
  · have h : m * 2 ^ a < 2 ^ (m.log2 + a + 1) := by
      have h1 := Nat.lt_log2_self (n := m)
      rw [show m.log2 + a + 1 = (m.log2 + 1) + a by omega, Nat.pow_add]
      exact Nat.mul_lt_mul_of_pos_right h1 (two_pos a)
    have h0 : m * 2 ^ a ≠ 0 := by have := two_pos a; exact Nat.mul_ne_zero hm (by omega)
    have := (Nat.log2_lt h0).2 h
    omega
  · have h0 : m * 2 ^ a ≠ 0 := by have := two_pos a; exact Nat.mul_ne_zero hm (by omega)
    rw [Nat.le_log2 h0, Nat.pow_add]
    exact Nat.mul_le_mul_right _ (Nat.log2_self_le hm)
theorem cut_zero (s : Bool) (n : Nat) : Toward.even.cut s n 0 = n := by
  unfold Toward.cut
  simp [Nat.mod_one]
theorem cut_exact (s : Bool) (k d : Nat) (hk : k ≠ 0) : Toward.even.cut s (k * 2 ^ d) d = k := by
  unfold Toward.cut
  rw [log2_mul_pow k d hk, Nat.min_eq_left (by omega), Nat.one_shiftLeft]
  have h1 : k * 2 ^ d / 2 ^ d = k := Nat.mul_div_cancel _ (two_pos d)
  have h2 : k * 2 ^ d % 2 ^ d = 0 := Nat.mul_mod_left _ _
  have h3 := two_pos d
  simp only [h1, h2]
  have h4 : (2 ^ d == 2 * 0) = false := by
    rw [beq_eq_false_iff_ne]
    omega
  simp [h4]
theorem nearest_ok (s : Bool) (m : Nat) (e : Int) (k l : Nat) (hm : m ≠ 0) (hk : k < 2 ^ 53) (hl : l ≤ 1500) (hq : Q m e (k * 2 ^ l)) :
    ∃ m' e', double.read (double.nearest s m e) = .number s m' e' ∧ -1074 ≤ e' ∧ m' * 2 ^ (e' + 1074).toNat = k * 2 ^ l := by
  have hlp : double.leastPlace = -1074 := by decide
  have hbn : double.binade = 2 ^ 52 := by decide
  have hir : double.infRung = 2047 * 2 ^ 52 := by decide
  have hsw : double.signWeight = 2 ^ 63 := by decide
  have hfb : double.fractionBits = 52 := rfl
  have hk0 : k ≠ 0 := by
    rintro rfl
    unfold Q at hq
    rw [Nat.zero_mul, Nat.zero_mul] at hq
    have := two_pos (e + 1074).toNat
    rcases Nat.mul_eq_zero.1 hq with h | h <;> omega
  -- the logarithms
  have hlog : (m.log2 : Int) + (e + 1074) = k.log2 + l := by
    unfold Q at hq
    have h1 := congrArg Nat.log2 hq
    rw [log2_mul_pow m _ hm, Nat.mul_assoc, ← Nat.pow_add, log2_mul_pow k _ hk0] at h1
    omega
  have hkl : k.log2 ≤ 52 := by
    have := (Nat.log2_lt hk0).2 hk
    omega
  obtain ⟨t, ht⟩ : ∃ t : Nat, t = k.log2 + l - 52 := ⟨_, rfl⟩
  have htl : t ≤ l := by omega
  have hlast : max (e + m.log2 - double.fractionBits) (-1074) = (t : Int) - 1074 := by
    rw [hfb]
    omega
  obtain ⟨K, hK⟩ : ∃ K : Nat, K = k * 2 ^ (l - t) := ⟨_, rfl⟩
  have hKt : K * 2 ^ t = k * 2 ^ l := by
    rw [hK, Nat.mul_assoc, ← Nat.pow_add]
    congr 2
    omega
  have hK0 : K ≠ 0 := by
    rw [hK]
    exact Nat.mul_ne_zero hk0 (by have := two_pos (l - t); omega)
  have hKlog : K.log2 = k.log2 + (l - t) := by rw [hK, log2_mul_pow k _ hk0]
  have hK53 : K < 2 ^ 53 := (Nat.log2_lt hK0).1 (by omega)
  have hK52 : t ≠ 0 → 2 ^ 52 ≤ K := fun h => (Nat.le_log2 hK0).1 (by omega)
  -- what is kept
  have hkept : Toward.even.cut s (m <<< (e - ((t : Int) - 1074)).toNat) (((t : Int) - 1074) - e).toNat = K := by
    unfold Q at hq
    rcases Int.lt_or_le e ((t : Int) - 1074) with hlt | hge
    · have h1 : (e - ((t : Int) - 1074)).toNat = 0 := by omega
      rw [h1, Nat.shiftLeft_zero]
      have h2 : m = K * 2 ^ (((t : Int) - 1074) - e).toNat := by
        rw [← hKt] at hq
        have h3 : K * 2 ^ t * 2 ^ (-(e + 1074)).toNat = K * 2 ^ (((t : Int) - 1074) - e).toNat * 2 ^ (e + 1074).toNat := by
          rw [Nat.mul_assoc, Nat.mul_assoc, ← Nat.pow_add, ← Nat.pow_add]
          congr 2
          omega
        rw [h3] at hq
        exact Nat.eq_of_mul_eq_mul_right (two_pos _) hq
      rw [h2]
      exact cut_exact s K _ hK0
    · have h1 : (((t : Int) - 1074) - e).toNat = 0 := by omega
      rw [h1, cut_zero, Nat.shiftLeft_eq]
      have h2 : (-(e + 1074)).toNat = 0 := by omega
      rw [h2, Nat.pow_zero, Nat.mul_one, ← hKt, show (e + 1074).toNat = (e - ((t : Int) - 1074)).toNat + t by omega, Nat.pow_add, ← Nat.mul_assoc] at hq
      exact Nat.eq_of_mul_eq_mul_right (two_pos t) hq
  have hnear : double.nearest s m e = double.word s (t * 2 ^ 52 + K) := by
    unfold Format.nearest
    rw [if_neg hm]
    simp only [hlp, hlast, hkept, hbn, hir]
    congr 1
    rw [show ((t : Int) - 1074 - -1074).toNat = t by omega]
    apply Nat.min_eq_left
    omega
  rw [hnear]
  have hrl : t * 2 ^ 52 + K < 2047 * 2 ^ 52 := by omega
  have hw1 : double.word s (t * 2 ^ 52 + K) / double.signWeight % 2 = s.toNat := by
    unfold Format.word
    rw [hsw]
    cases s
    · simp only [Bool.false_eq_true, if_false, Bool.toNat_false]
      omega
    · simp only [if_true, Bool.toNat_true]
      omega
  have hw2 : double.word s (t * 2 ^ 52 + K) % double.signWeight = t * 2 ^ 52 + K := by
    unfold Format.word
    rw [hsw]
    cases s
    · simp only [Bool.false_eq_true, if_false]
      omega
    · simp only [if_true]
      omega
  unfold Format.read
  simp only [hw1, hw2, hbn, hir, hlp]
  have hs : (s.toNat == 1) = s := by cases s <;> rfl
  rw [hs]
  by_cases hsm : t * 2 ^ 52 + K < 2 ^ 52
  · rw [if_pos hsm]
    have ht0 : t = 0 := by omega
    refine ⟨_, _, rfl, by omega, ?_⟩
    rw [← hKt, ht0]
    simp
  · rw [if_neg hsm, if_pos hrl]
    have hKb : 2 ^ 52 ≤ K := by
      by_cases ht0 : t = 0
      · omega
      · exact hK52 ht0
    refine ⟨_, _, rfl, by omega, ?_⟩
    rw [← hKt]
    have h1 : (t * 2 ^ 52 + K) / 2 ^ 52 = t + 1 := by omega
    have h2 : (t * 2 ^ 52 + K) % 2 ^ 52 = K - 2 ^ 52 := by omega
    have h3 : 2 ^ 52 + (K - 2 ^ 52) = K := by omega
    have h4 : ((-1074 : Int) + ((t + 1 - 1 : Nat) : Int) + 1074).toNat = t := by omega
    rw [h1, h2, h3, h4]
def E : Nat := 1074
theorem E_eq : E = 1074 := rfl
/-- The word b is the number z * 2 ^ -1074. -/
def Fin (b : Nat) (z : Int) : Prop := ∃ s m e, double.read b = .number s m e ∧ -1074 ≤ e ∧ (if s then -((m * 2 ^ (e + 1074).toNat : Nat) : Int) else ((m * 2 ^ (e + 1074).toNat : Nat) : Int)) = z
/-- The word b is the whole number n (nought with either sign). -/
def IsF (b : Nat) (n : Int) : Prop := Fin b (n * ((2 ^ E : Nat) : Int))
theorem read_zero (s : Bool) : double.read (double.word s 0) = .number s 0 (-1074) := by cases s <;> decide
/-- What is written of an exact value that a word has. -/
theorem write_ok (s : Bool) (m : Nat) (e : Int) (k l : Nat) (hk : k < 2 ^ 53) (hl : l ≤ 1500) (hq : Q m e (k * 2 ^ l)) : Fin (double.write (.number s m e)) (if s then -((k * 2 ^ l : Nat) : Int) else ((k * 2 ^ l : Nat) : Int)) := by
  show Fin (double.nearest s m e) _
  by_cases hm : m = 0
  · subst hm
    have h0 : k * 2 ^ l = 0 := by
      unfold Q at hq
      rw [Nat.zero_mul] at hq
      have := two_pos (-(e + 1074)).toNat
      rcases Nat.mul_eq_zero.1 hq.symm with h | h
      · exact h
      · omega
    rw [h0]
    have hn : double.nearest s 0 e = double.word s 0 := by unfold Format.nearest; rw [if_pos rfl]
    rw [hn]
    refine ⟨s, 0, -1074, read_zero s, by omega, ?_⟩
    simp
  · obtain ⟨m', e', h1, h2, h3⟩ := nearest_ok s m e k l hm hk hl hq
    exact ⟨s, m', e', h1, h2, by rw [h3]⟩
def sgn (s : Bool) (v : Nat) : Int := if s then -(v : Int) else v
theorem signed_eq (s : Bool) (m u : Nat) : signed s m u = sgn s (m * 2 ^ u) := by
  unfold signed sgn
  rw [Nat.shiftLeft_eq]
theorem sgn_mul (s : Bool) (v c : Nat) : sgn s v * (c : Int) = sgn s (v * c) := by
  unfold sgn
  cases s
  · simp
  · simp [Int.neg_mul]
theorem sgn_abs (s : Bool) (v : Nat) : (sgn s v).natAbs = v := by unfold sgn; cases s <;> simp
theorem sgn_neg (s : Bool) (v : Nat) : sgn (!s) v = - sgn s v := by unfold sgn; cases s <;> simp
/-- A whole number, by its parts. -/
theorem isF_parts {b : Nat} {n : Int} (h : IsF b n) : ∃ s m e, double.read b = .number s m e ∧ -1074 ≤ e ∧ sgn s (m * 2 ^ (e + 1074).toNat) = n * ((2 ^ E : Nat) : Int) := h
theorem isF_of {b : Nat} {n : Int} (s : Bool) (h : Fin b (sgn s (n.natAbs * 2 ^ E))) (hs : n < 0 → s = true) (hp : 0 < n → s = false) : IsF b n := by
  unfold IsF
  have hz : sgn s (n.natAbs * 2 ^ E) = n * ((2 ^ E : Nat) : Int) := by
    rcases Int.lt_trichotomy n 0 with h | h | h
    · rw [hs h]
      unfold sgn
      rw [if_pos rfl, Int.natCast_mul, ← Int.neg_mul]
      congr 1
      omega
    · subst h
      unfold sgn
      rw [Int.zero_mul, show (0 : Int).natAbs = 0 from rfl, Nat.zero_mul]
      cases s <;> rfl
    · rw [hp h]
      unfold sgn
      rw [if_neg (by decide), Int.natCast_mul]
      congr 1
      omega
  rw [← hz]
  exact h
theorem mul_pos_lt {a p : Int} (hp : 0 < p) : a * p < 0 ↔ a < 0 := by
  constructor
  · intro h
    rcases Int.lt_or_le a 0 with h1 | h1
    · exact h1
    · have := Int.mul_nonneg h1 (Int.le_of_lt hp)
      omega
  · intro h
    exact Int.mul_neg_of_neg_of_pos h hp
theorem mul_pos_gt {a p : Int} (hp : 0 < p) : 0 < a * p ↔ 0 < a := by
  have := mul_pos_lt (a := -a) hp
  rw [Int.neg_mul] at this
  omega
theorem P_pos : (0 : Int) < ((2 ^ E : Nat) : Int) := Int.natCast_pos.2 (two_pos E)
theorem sign_of {s : Bool} {v : Nat} {x p : Int} (h : sgn s v = x * p) (hp : 0 < p) : (s = true → x ≤ 0) ∧ (s = false → 0 ≤ x) := by
  constructor
  · rintro rfl
    have h1 : x * p ≤ 0 := by rw [← h]; unfold sgn; rw [if_pos rfl]; omega
    have := mul_pos_gt (a := x) hp
    omega
  · rintro rfl
    have h1 : 0 ≤ x * p := by rw [← h]; unfold sgn; rw [if_neg (by decide)]; omega
    have := mul_pos_lt (a := x) hp
    omega
/-- A sum that is exact. -/
theorem sum_ok {s t : Bool} {m n : Nat} {i j : Int} {x y : Int} (hi : -1074 ≤ i) (hj : -1074 ≤ j) (hx : sgn s (m * 2 ^ (i + 1074).toNat) = x * ((2 ^ E : Nat) : Int)) (hy : sgn t (n * 2 ^ (j + 1074).toNat) = y * ((2 ^ E : Nat) : Int)) (hb : (x + y).natAbs < 2 ^ 53) :
    ∃ d, Datum.sum (.number s m i) (.number t n j) = some d ∧ IsF (double.write d) (x + y) := by
  obtain ⟨base, hbase⟩ : ∃ base, base = min i j := ⟨_, rfl⟩
  obtain ⟨total, htot⟩ : ∃ total, total = signed s m (i - base).toNat + signed t n (j - base).toNat := ⟨_, rfl⟩
  have hB : total * ((2 ^ (base + 1074).toNat : Nat) : Int) = (x + y) * ((2 ^ E : Nat) : Int) := by
    rw [htot, signed_eq, signed_eq, Int.add_mul, sgn_mul, sgn_mul, Nat.mul_assoc, Nat.mul_assoc, ← Nat.pow_add, ← Nat.pow_add, show (i - base).toNat + (base + 1074).toNat = (i + 1074).toNat by omega, show (j - base).toNat + (base + 1074).toNat = (j + 1074).toNat by omega, hx, hy, Int.add_mul]
  have hPp := P_pos
  have hBp : (0 : Int) < ((2 ^ (base + 1074).toNat : Nat) : Int) := by have := two_pos (base + 1074).toNat; omega
  have hneg : total < 0 ↔ x + y < 0 := by rw [← mul_pos_lt hBp, hB, mul_pos_lt hPp]
  have hpos : 0 < total ↔ 0 < x + y := by rw [← mul_pos_gt hBp, hB, mul_pos_gt hPp]
  refine ⟨.number (if total = 0 then s && t else total < 0) total.natAbs base, ?_, ?_⟩
  · unfold Datum.sum
    simp only [← hbase, ← htot]
  · have hq : Q total.natAbs base ((x + y).natAbs * 2 ^ E) := by
      unfold Q
      have h1 := congrArg Int.natAbs hB
      rw [Int.natAbs_mul, Int.natAbs_mul, Int.natAbs_natCast, Int.natAbs_natCast] at h1
      rw [h1, show (-(base + 1074)).toNat = 0 by omega, Nat.pow_zero, Nat.mul_one]
    refine isF_of _ (write_ok _ total.natAbs base (x + y).natAbs E hb (by have := E_eq; omega) hq) ?_ ?_
    · intro h
      have h2 := hneg.2 h
      rw [if_neg (by omega)]
      exact decide_eq_true h2
    · intro h
      have h2 := hpos.2 h
      rw [if_neg (by omega)]
      exact decide_eq_false (by omega)
theorem add_ok {a b : Nat} {x y : Int} (ha : IsF a x) (hb : IsF b y) (h : (x + y).natAbs < 2 ^ 53) : ∃ r, double.add a b = some r ∧ IsF r (x + y) := by
  obtain ⟨s, m, i, h1, h2, h3⟩ := isF_parts ha
  obtain ⟨t, n, j, h4, h5, h6⟩ := isF_parts hb
  obtain ⟨d, hd, hr⟩ := sum_ok h2 h5 h3 h6 h
  refine ⟨double.write d, ?_, hr⟩
  unfold Format.add
  rw [h1, h4, hd]
  rfl
theorem sub_ok {a b : Nat} {x y : Int} (ha : IsF a x) (hb : IsF b y) (h : (x - y).natAbs < 2 ^ 53) : ∃ r, double.sub a b = some r ∧ IsF r (x - y) := by
  obtain ⟨s, m, i, h1, h2, h3⟩ := isF_parts ha
  obtain ⟨t, n, j, h4, h5, h6⟩ := isF_parts hb
  have h7 : sgn (!t) (n * 2 ^ (j + 1074).toNat) = (-y) * ((2 ^ E : Nat) : Int) := by rw [sgn_neg, h6, Int.neg_mul]
  obtain ⟨d, hd, hr⟩ := sum_ok (y := -y) h2 h5 h3 h7 (by rwa [← Int.sub_eq_add_neg])
  refine ⟨double.write d, ?_, by rwa [← Int.sub_eq_add_neg] at hr⟩
  unfold Format.sub
  rw [h1, h4]
  show ((Datum.number s m i).sum (.number (!t) n j)).map double.write = _
  rw [hd]
  rfl
theorem re4 (a b p : Nat) : (a * p) * (b * p) = a * b * p * p := by ac_rfl
theorem mul_ok {a b : Nat} {x y : Int} (ha : IsF a x) (hb : IsF b y) (h : (x * y).natAbs < 2 ^ 53) : ∃ r, double.mul a b = some r ∧ IsF r (x * y) := by
  obtain ⟨s, m, i, h1, h2, h3⟩ := isF_parts ha
  obtain ⟨t, n, j, h4, h5, h6⟩ := isF_parts hb
  refine ⟨double.write (.number (s ^^ t) (m * n) (i + j)), ?_, ?_⟩
  · unfold Format.mul
    rw [h1, h4]
    rfl
  have e1 := congrArg Int.natAbs h3
  have e2 := congrArg Int.natAbs h6
  rw [sgn_abs, Int.natAbs_mul, Int.natAbs_natCast] at e1 e2
  have hq : Q (m * n) (i + j) ((x * y).natAbs * 2 ^ E) := by
    unfold Q
    rw [Int.natAbs_mul]
    have hm : (m * n) * 2 ^ ((i + 1074).toNat + (j + 1074).toNat) = (x.natAbs * y.natAbs) * 2 ^ E * 2 ^ E := by
      rw [Nat.pow_add]
      calc m * n * (2 ^ (i + 1074).toNat * 2 ^ (j + 1074).toNat) = (m * 2 ^ (i + 1074).toNat) * (n * 2 ^ (j + 1074).toNat) := by ac_rfl
        _ = (x.natAbs * 2 ^ E) * (y.natAbs * 2 ^ E) := by rw [e1, e2]
        _ = _ := re4 _ _ _
    rcases Int.lt_or_le (i + j + 1074) 0 with hlt | hge
    · rw [show (i + j + 1074).toNat = 0 by omega, Nat.pow_zero, Nat.mul_one]
      refine Nat.eq_of_mul_eq_mul_right (two_pos ((i + 1074).toNat + (j + 1074).toNat)) ?_
      rw [hm, Nat.mul_assoc _ (2 ^ (-(i + j + 1074)).toNat), ← Nat.pow_add, show (-(i + j + 1074)).toNat + ((i + 1074).toNat + (j + 1074).toNat) = E by have := E_eq; omega]
    · rw [show (-(i + j + 1074)).toNat = 0 by omega, Nat.pow_zero, Nat.mul_one]
      refine Nat.eq_of_mul_eq_mul_right (two_pos E) ?_
      rw [← hm, Nat.mul_assoc, ← Nat.pow_add, show (i + j + 1074).toNat + E = (i + 1074).toNat + (j + 1074).toNat by have := E_eq; omega]
  refine isF_of _ (write_ok _ (m * n) (i + j) (x * y).natAbs E h (by have := E_eq; omega) hq) ?_ ?_
  · intro hlt
    obtain ⟨p1, p2⟩ := sign_of h3 P_pos
    obtain ⟨p3, p4⟩ := sign_of h6 P_pos
    cases s <;> cases t
    · have := Int.mul_nonneg (p2 rfl) (p4 rfl)
      omega
    · rfl
    · rfl
    · have := Int.mul_nonneg_of_nonpos_of_nonpos (p1 rfl) (p3 rfl)
      omega
  · intro hgt
    obtain ⟨p1, p2⟩ := sign_of h3 P_pos
    obtain ⟨p3, p4⟩ := sign_of h6 P_pos
    cases s <;> cases t
    · rfl
    · have := Int.mul_nonpos_of_nonneg_of_nonpos (p2 rfl) (p3 rfl)
      omega
    · have := Int.mul_nonpos_of_nonpos_of_nonneg (p1 rfl) (p4 rfl)
      omega
    · rfl
/-- How two words stand to each other. -/
theorem order_ok {a b : Nat} {x y : Int} (ha : IsF a x) (hb : IsF b y) : double.order a b = some (compare x y) := by
  obtain ⟨s, m, i, h1, h2, h3⟩ := isF_parts ha
  obtain ⟨t, n, j, h4, h5, h6⟩ := isF_parts hb
  unfold Format.order
  rw [h1, h4]
  obtain ⟨base, hbase⟩ : ∃ base, base = min i j := ⟨_, rfl⟩
  show some (compare (signed s m (i - min i j).toNat) (signed t n (j - min i j).toNat)) = _
  rw [← hbase]
  obtain ⟨u, hu⟩ : ∃ u, u = signed s m (i - base).toNat := ⟨_, rfl⟩
  obtain ⟨v, hv⟩ : ∃ v, v = signed t n (j - base).toNat := ⟨_, rfl⟩
  have hU : u * ((2 ^ (base + 1074).toNat : Nat) : Int) = x * ((2 ^ E : Nat) : Int) := by
    rw [hu, signed_eq, sgn_mul, Nat.mul_assoc, ← Nat.pow_add, show (i - base).toNat + (base + 1074).toNat = (i + 1074).toNat by omega, h3]
  have hV : v * ((2 ^ (base + 1074).toNat : Nat) : Int) = y * ((2 ^ E : Nat) : Int) := by
    rw [hv, signed_eq, sgn_mul, Nat.mul_assoc, ← Nat.pow_add, show (j - base).toNat + (base + 1074).toNat = (j + 1074).toNat by omega, h6]
  rw [← hu, ← hv]
  have hPp := P_pos
  have hBp : (0 : Int) < ((2 ^ (base + 1074).toNat : Nat) : Int) := by have := two_pos (base + 1074).toNat; omega
  have hS : (u - v) * ((2 ^ (base + 1074).toNat : Nat) : Int) = (x - y) * ((2 ^ E : Nat) : Int) := by rw [Int.sub_mul, Int.sub_mul, hU, hV]
  have hneg : u - v < 0 ↔ x - y < 0 := by rw [← mul_pos_lt hBp, hS, mul_pos_lt hPp]
  have hpos : 0 < u - v ↔ 0 < x - y := by rw [← mul_pos_gt hBp, hS, mul_pos_gt hPp]
  congr 1
  show compareOfLessAndEq u v = compareOfLessAndEq x y
  unfold compareOfLessAndEq
  rcases Int.lt_trichotomy x y with h | h | h
  · have a1 : u < v := by omega
    rw [if_pos a1, if_pos h]
  · have a1 : ¬ u < v := by omega
    have a2 : u = v := by omega
    have a3 : ¬ x < y := by omega
    rw [if_neg a1, if_pos a2, if_neg a3, if_pos h]
  · have a1 : ¬ u < v := by omega
    have a2 : ¬ u = v := by omega
    have a3 : ¬ x < y := by omega
    have a4 : ¬ x = y := by omega
    rw [if_neg a1, if_neg a2, if_neg a3, if_neg a4]
end Go.Proofs.YtjhgmpeoagndjaaGreat.Flo
