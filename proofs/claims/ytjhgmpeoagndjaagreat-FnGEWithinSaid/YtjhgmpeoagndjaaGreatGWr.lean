/-
  Contracts of math.Trunc and math.Abs as the law asks them; of geSmall. Condition: words of 64 bits.
-/
import Derived.Test.YtjhgmpeoagndjaaGreatGWf
import Derived.Laws.BitsAllLaws
namespace Go.Proofs.YtjhgmpeoagndjaaGreat.GE
open Go.RowKit Go.Proofs.YtjhgmpeoagndjaaGreatW.PrintWords Go.Proofs.YtjhgmpeoagndjaaGreatW.PrintLast Go.Proofs.YtjhgmpeoagndjaaGreatW.PrintMore
open Go.Proofs.YtjhgmpeoagndjaaGreat.Flo
set_option linter.unusedVariables false
set_option linter.unusedSimpArgs false
set_option maxRecDepth 100000
set_option maxHeartbeats 400000

def archF (b : Nat) (d : Ieee.Datum) : Sem Value :=
  match d with
  | .nan s t =>
    if FloatKind.f64.format.quiet t = t then pure (.float .f64 b) else do
    let kept ← choose (.extern "math.Floor,Ceil,Trunc,RoundToEven.signallingNaN kept" 2)
    pure (.float .f64 (if kept == 1 then b else FloatKind.f64.encode (.nan s (FloatKind.f64.format.quiet t))))
  | d => pure (.float .f64 (FloatKind.f64.encode (d.integral .zero)))
theorem arch_eq (b : Nat) (w : World) : (callFunc 17 #[.float .f64 b]).run Tryz.prog w = (archF b (FloatKind.f64.decode b) >>= fun v => pure (Next.value v)).run Tryz.prog w := by kernel_rfl
/-- A whole number, or without an end. -/
def Wh (b : Nat) : Prop := (∃ s, Ieee.double.read b = .infinity s) ∨ ∃ n, IsF b n
theorem trunc_nan (b : Nat) (s : Bool) (t : Nat) (hd : FloatKind.f64.decode b = .nan s t) (w : World) : ∃ (r : Nat) (w1 : World), (w1 = w ∨ w1 = w.drew) ∧ (callFunc 17 #[.float .f64 b]).run Tryz.prog w = .ok (.value (.float .f64 r)) w1 := by
  rw [arch_eq, hd]
  unfold archF
  by_cases hq : FloatKind.f64.format.quiet t = t
  · exact ⟨b, w, .inl rfl, by simp [hq]⟩
  · simp only [hq, if_false, Sem.run_bind, choose, Sem.run, Question.forced, Question.cut, Result.andThen]
    exact ⟨_, _, .inr rfl, rfl⟩
theorem trunc_num (b : Nat) (d : Ieee.Datum) (hd : FloatKind.f64.decode b = d) (hn : d.isNaN = false) (w : World) : (callFunc 17 #[.float .f64 b]).run Tryz.prog w = .ok (.value (.float .f64 (FloatKind.f64.encode (d.integral .zero)))) w := by
  rw [arch_eq, hd]
  cases d with
  | nan s t => cases hn
  | number s m e => rfl
  | infinity s => rfl
theorem read_place {b : Nat} {s : Bool} {m : Nat} {e : Int} (h : Ieee.double.read b = .number s m e) : -1074 ≤ e := by
  have hlp : Ieee.double.leastPlace = -1074 := by decide
  unfold Ieee.Format.read at h
  simp only [hlp] at h
  split at h
  · cases h
    omega
  · split at h
    · cases h
      omega
    · split at h <;> cases h
/-- The word of the magnitude. -/
theorem read_abs (b : Nat) : (∀ s m e, Ieee.double.read b = .number s m e → Ieee.double.read (b % 2 ^ 63) = .number false m e) ∧ (∀ s, Ieee.double.read b = .infinity s → Ieee.double.read (b % 2 ^ 63) = .infinity false) := by
  have hsw : Ieee.double.signWeight = 2 ^ 63 := by decide
  have h1 : b % 2 ^ 63 / 2 ^ 63 % 2 = 0 := by omega
  have h2 : b % 2 ^ 63 % 2 ^ 63 = b % 2 ^ 63 := by omega
  unfold Ieee.Format.read
  simp only [hsw, h1, h2]
  constructor
  · intro s m e h
    split at h
    · next hc => rw [if_pos hc]; cases h; rfl
    · next hc =>
      rw [if_neg hc]
      split at h
      · next hc2 => rw [if_pos hc2]; cases h; rfl
      · split at h <;> cases h
  · intro s h
    split at h
    · cases h
    · next hc =>
      rw [if_neg hc]
      split at h
      · cases h
      · next hc2 =>
        rw [if_neg hc2]
        split at h
        · next hc3 => rw [if_pos hc3]; rfl
        · cases h
theorem cut_le (s : Bool) (n d : Nat) : Ieee.Toward.zero.cut s n d * 2 ^ d ≤ n := by
  unfold Ieee.Toward.cut
  simp only [Bool.toNat_false, Nat.add_zero]
  rw [Nat.one_shiftLeft]
  rcases Nat.le_total d (n.log2 + 2) with h | h
  · rw [Nat.min_eq_left h]
    exact Nat.div_mul_le_self n (2 ^ d)
  · rw [Nat.min_eq_right h]
    have hlt : n < 2 ^ (n.log2 + 2) := Nat.lt_of_lt_of_le Nat.lt_log2_self (Nat.pow_le_pow_right (by decide) (by omega))
    rw [Nat.div_eq_of_lt hlt, Nat.zero_mul]
    exact Nat.zero_le _
/-- How two numbers stand to each other, by their values. -/
theorem order_fin {a b : Nat} {x y : Int} (ha : Fin a x) (hb : Fin b y) : Ieee.double.order a b = some (compare x y) := by
  obtain ⟨s, m, i, h1, h2, h3⟩ := ha
  obtain ⟨t, n, j, h4, h5, h6⟩ := hb
  have h3 : sgn s (m * 2 ^ (i + 1074).toNat) = x := h3
  have h6 : sgn t (n * 2 ^ (j + 1074).toNat) = y := h6
  unfold Ieee.Format.order
  rw [h1, h4]
  obtain ⟨base, hbase⟩ : ∃ base, base = min i j := ⟨_, rfl⟩
  show some (compare (Ieee.signed s m (i - min i j).toNat) (Ieee.signed t n (j - min i j).toNat)) = _
  rw [← hbase]
  obtain ⟨u, hu⟩ : ∃ u, u = Ieee.signed s m (i - base).toNat := ⟨_, rfl⟩
  obtain ⟨v, hv⟩ : ∃ v, v = Ieee.signed t n (j - base).toNat := ⟨_, rfl⟩
  have hU : u * ((2 ^ (base + 1074).toNat : Nat) : Int) = x := by
    rw [hu, signed_eq, sgn_mul, Nat.mul_assoc, ← Nat.pow_add, show (i - base).toNat + (base + 1074).toNat = (i + 1074).toNat by omega, h3]
  have hV : v * ((2 ^ (base + 1074).toNat : Nat) : Int) = y := by
    rw [hv, signed_eq, sgn_mul, Nat.mul_assoc, ← Nat.pow_add, show (j - base).toNat + (base + 1074).toNat = (j + 1074).toNat by omega, h6]
  rw [← hu, ← hv]
  have hBp : (0 : Int) < ((2 ^ (base + 1074).toNat : Nat) : Int) := by have := Flo.two_pos (base + 1074).toNat; omega
  have hS : (u - v) * ((2 ^ (base + 1074).toNat : Nat) : Int) = x - y := by rw [Int.sub_mul, hU, hV]
  have hneg : u - v < 0 ↔ x - y < 0 := by rw [← mul_pos_lt hBp, hS]
  have hpos : 0 < u - v ↔ 0 < x - y := by rw [← mul_pos_gt hBp, hS]
  congr 1
  show compareOfLessAndEq u v = compareOfLessAndEq x y
  unfold compareOfLessAndEq
  rcases Int.lt_trichotomy x y with h | h | h
  · have a1 : u < v := by omega
    rw [if_pos a1, if_pos h]
  · have a1 : ¬ u < v := by omega
    have a2 : u = v := by omega
    have a3 : ¬ x < y := by omega
    rw [if_neg a1, if_pos a2, if_neg a3, if_pos h]
  · have a1 : ¬ u < v := by omega
    have a2 : ¬ u = v := by omega
    have a3 : ¬ x < y := by omega
    have a4 : ¬ x = y := by omega
    rw [if_neg a1, if_neg a2, if_neg a3, if_neg a4]
theorem isF_lit {b m n k : Nat} (h : Ieee.double.read b = .number false m (-(k : Int))) (hm : m = n * 2 ^ k) (hk : k ≤ 1074) : IsF b (n : Int) := by
  refine ⟨false, m, _, h, by omega, ?_⟩
  have hE := E_eq
  have h1 : m * 2 ^ (-(k : Int) + 1074).toNat = n * 2 ^ E := by
    rw [hm, Nat.mul_assoc, ← Nat.pow_add, show k + (-(k : Int) + 1074).toNat = E by omega]
  rw [if_neg (by decide), h1, Int.natCast_mul]
theorem isF_1000 : IsF 4652007308841189376 1000 := isF_lit (m := 8796093022208000) (n := 1000) (k := 43) (by decide) (by decide) (by decide)
theorem isF_2 : IsF 4611686018427387904 2 := isF_lit (m := 4503599627370496) (n := 2) (k := 51) (by decide) (by decide) (by decide)
/-- The word of a number cut to a whole one. -/
def cutB (s : Bool) (m : Nat) (e : Int) : Nat := FloatKind.f64.encode ((Ieee.Datum.number s m e).integral .zero)
theorem cut_ok {b : Nat} {s : Bool} {m : Nat} {e : Int} (hr : Ieee.double.read b = .number s m e) (heq : Ieee.double.order b (cutB s m e) = some .eq) (hbig : Ieee.double.order (b % 2 ^ 63) 4652007308841189376 ≠ some .gt) : ∃ n, Sm b n := by
  have he := read_place hr
  have hE := E_eq
  have hb : Fin b (sgn s (m * 2 ^ (e + 1074).toNat)) := ⟨s, m, e, hr, he, rfl⟩
  have ha : Fin (b % 2 ^ 63) (sgn false (m * 2 ^ (e + 1074).toNat)) := ⟨false, m, e, (read_abs b).1 s m e hr, he, rfl⟩
  have hP := P_pos
  -- not great
  have hle : m * 2 ^ (e + 1074).toNat ≤ 1000 * 2 ^ E := by
    have h := order_fin ha isF_1000
    rw [h] at hbig
    have h2 : ¬ ((1000 : Int) * ((2 ^ E : Nat) : Int) < sgn false (m * 2 ^ (e + 1074).toNat)) := by
      intro hlt
      apply hbig
      refine congrArg some ?_
      show compareOfLessAndEq _ _ = _
      unfold compareOfLessAndEq
      rw [if_neg (Int.lt_asymm hlt), if_neg (Int.ne_of_gt hlt)]
    have h3 : sgn false (m * 2 ^ (e + 1074).toNat) = ((m * 2 ^ (e + 1074).toNat : Nat) : Int) := rfl
    rw [h3] at h2
    have h4 : ((m * 2 ^ (e + 1074).toNat : Nat) : Int) ≤ ((1000 * 2 ^ E : Nat) : Int) := by
      rw [Int.natCast_mul 1000]
      exact Int.not_lt.1 h2
    exact Int.ofNat_le.1 h4
  -- the cut number
  obtain ⟨N, hN⟩ : ∃ N, N = Ieee.Toward.zero.cut s (m <<< e.toNat) (-e).toNat := ⟨_, rfl⟩
  have hNle : N * 2 ^ E ≤ m * 2 ^ (e + 1074).toNat := by
    have h := cut_le s (m <<< e.toNat) (-e).toNat
    rw [← hN, Nat.shiftLeft_eq] at h
    have h2 : N * 2 ^ (-e).toNat * 2 ^ (e + 1074 - e.toNat).toNat ≤ m * 2 ^ e.toNat * 2 ^ (e + 1074 - e.toNat).toNat := Nat.mul_le_mul_right _ h
    rw [Nat.mul_assoc, Nat.mul_assoc, ← Nat.pow_add, ← Nat.pow_add, show (-e).toNat + (e + 1074 - e.toNat).toNat = E by omega, show e.toNat + (e + 1074 - e.toNat).toNat = (e + 1074).toNat by omega] at h2
    exact h2
  have hN1000 : N ≤ 1000 := Nat.le_of_mul_le_mul_right (Nat.le_trans hNle hle) (Flo.two_pos E)
  have hT : Fin (cutB s m e) (sgn s (N * 2 ^ E)) := by
    unfold cutB
    show Fin (Ieee.double.write (.number s (Ieee.Toward.zero.cut s (m <<< e.toNat) (-e).toNat) 0)) _
    rw [← hN]
    refine write_ok s N 0 N E (by omega) (by omega) ?_
    unfold Q
    rw [show ((0 : Int) + 1074).toNat = E by omega, show (-((0 : Int) + 1074)).toNat = 0 by omega, Nat.pow_zero, Nat.mul_one]
  have hz : sgn s (m * 2 ^ (e + 1074).toNat) = sgn s (N * 2 ^ E) := by
    have h := order_fin hb hT
    rw [h] at heq
    have h2 := cmp_eq (sgn s (m * 2 ^ (e + 1074).toNat)) (sgn s (N * 2 ^ E))
    rw [heq] at h2
    exact of_decide_eq_true h2.symm
  refine ⟨sgn s N, ?_, ?_, ?_⟩
  · unfold IsF
    rw [sgn_mul, ← hz]
    exact hb
  · unfold sgn
    split <;> omega
  · unfold sgn
    split <;> omega
theorem f64bits (b : Nat) (w : World) : (callFunc 20 #[.float .f64 b]).run Tryz.prog w = .ok (.value (.int .u64 b)) w := by kernel_rfl
theorem frombits (n : Int) (w : World) : (callFunc 19 #[.int .u64 n]).run Tryz.prog w = .ok (.value (.float .f64 n.toNat)) w := by kernel_rfl
theorem abs_bits (b : Nat) (hb : b < 18446744073709551616) : bits .andNot .u64 (b : Int) 9223372036854775808 = ((b % 2 ^ 63 : Nat) : Int) := by
  have h := u64_andNot_nat b 9223372036854775808 hb (by decide)
  have h2 : b &&& (18446744073709551615 - 9223372036854775808) = b % 2 ^ 63 := Nat.and_two_pow_sub_one_eq_mod b 63
  rw [h2] at h
  exact h
theorem abs_ok (b : Nat) (hb : b < 18446744073709551616) (w : World) : Calls Tryz.prog 11 #[.float .f64 b] w fun e w' => e = .returned (.float .f64 (b % 2 ^ 63)) ∧ Below w.heap.size w w' := by
  have h1 := f64bits b
  have h2 := frombits
  have h3 := abs_bits b hb
  generalize b % 2 ^ 63 = r at *
  go_enter Tryz.func11, Tryz.ntmps11
  go_wp2
  go_ret
  exact ⟨by first | rfl | simp, Below.refl _ _⟩
def bigB (b : Nat) : Bool := FloatKind.f64.format.order (b % 2 ^ 63) 4652007308841189376 == some .gt
theorem trunc_ok (b : Nat) : ∃ bad : Bool, (bad = false → bigB b = false → ∃ n, Sm b n) ∧ ∀ w, Calls Tryz.prog 10 #[.float .f64 b] w fun e w' => ∃ t, e = .returned (.float .f64 t) ∧ (FloatKind.f64.format.order b t != some .eq) = bad ∧ Below w.heap.size w w' := by
  have hbg : ∀ {P : Prop}, (Ieee.double.order (b % 2 ^ 63) 4652007308841189376 ≠ some .gt → P) → bigB b = false → P := fun f h => f (fun e => by
    have h2 : bigB b = true := by
      unfold bigB
      show (Ieee.double.order (b % 2 ^ 63) 4652007308841189376 == some .gt) = true
      rw [e]
      rfl
    rw [h] at h2
    cases h2)
  cases hd : FloatKind.f64.decode b with
  | nan s t =>
    refine ⟨true, (fun h => by cases h), fun w => ?_⟩
    obtain ⟨r, w1, hw1, hrun⟩ := trunc_nan b s t hd w
    have hB : Below w.heap.size w w1 := by
      rcases hw1 with rfl | rfl
      · exact Below.refl _ _
      · exact below_drew (Below.refl _ _)
    have ho : (FloatKind.f64.format.order b r != some .eq) = true := by
      have h : FloatKind.f64.format.order b r = none := by
        show (FloatKind.f64.decode b).order (FloatKind.f64.decode r) = none
        rw [hd]
        rfl
      rw [h]
      rfl
    have HB := Aside0.mk hB
    clear hw1 hB hd
    go_enter Tryz.func10, Tryz.ntmps10
    go_wp2
    go_ret
    exact ⟨_, rfl, ho, HB.out⟩
  | number s m e =>
    have hrun := trunc_num b _ hd rfl
    refine ⟨FloatKind.f64.format.order b (cutB s m e) != some .eq, fun h => hbg (fun h2 => cut_ok hd ?_ h2), fun w => ?_⟩
    · have h3 : (FloatKind.f64.format.order b (cutB s m e) == some .eq) = true := by
        cases hq : (FloatKind.f64.format.order b (cutB s m e) == some .eq) with
        | true => rfl
        | false =>
          unfold bne at h
          rw [hq] at h
          cases h
      exact eq_of_beq h3
    · have hrw := hrun w
      have hq : FloatKind.f64.encode ((Ieee.Datum.number s m e).integral .zero) = cutB s m e := rfl
      rw [hq] at hrw
      generalize cutB s m e = t at *
      clear hrun hd hq
      go_enter Tryz.func10, Tryz.ntmps10
      go_wp2
      go_ret
      exact ⟨_, rfl, rfl, Below.refl _ _⟩
  | infinity s =>
    have hrun := trunc_num b _ hd rfl
    obtain ⟨t, ht⟩ : ∃ t, t = FloatKind.f64.encode ((Ieee.Datum.infinity s).integral .zero) := ⟨_, rfl⟩
    rw [← ht] at hrun
    refine ⟨FloatKind.f64.format.order b t != some .eq, fun _ => hbg (fun h2 => absurd ?_ h2), fun w => ?_⟩
    · unfold Ieee.Format.order
      rw [(read_abs b).2 s hd]
      rfl
    · have hrw := hrun w
      clear hrun hd ht
      go_enter Tryz.func10, Tryz.ntmps10
      go_wp2
      go_ret
      exact ⟨_, rfl, rfl, Below.refl _ _⟩
end Go.Proofs.YtjhgmpeoagndjaaGreat.GE
