/-
  Plain law: of whole numbers, what the library answers of two pieces is what the reference does. Condition: no piece is a point, not both points of the second piece lie on the first one's line.
-/
import Derived.Test.YtjhgmpeoagndjaaGEg
namespace Go.Proofs.Ytjhgmpeoagndjaa.GE
open Go.Proofs.Ytjhgmpeoagndjaa.Flo
set_option linter.unusedVariables false
set_option maxHeartbeats 1000000

theorem same_sign {U V x y : Int} (hU : 0 < U) (hV : 0 < V) (h : U * x = V * y) : (0 < x ↔ 0 < y) ∧ (x < 0 ↔ y < 0) := by
  rw [Int.mul_comm U, Int.mul_comm V] at h
  exact ⟨by rw [← mul_pos_gt hU, h, mul_pos_gt hV], by rw [← mul_pos_lt hU, h, mul_pos_lt hV]⟩
theorem opp_sign {U V x y : Int} (hU : 0 < U) (hV : V < 0) (h : U * x = V * y) : (0 < x ↔ y < 0) ∧ (x < 0 ↔ 0 < y) := by
  have h2 := same_sign (U := U) (V := -V) (x := x) (y := -y) hU (by omega) (by rw [h, Int.neg_mul_neg])
  omega
theorem zero_of_mul {V x : Int} (hV : V ≠ 0) (h : 0 = V * x) : x = 0 := by
  rcases Int.mul_eq_zero.1 h.symm with h | h
  · exact absurd h hV
  · exact h
/-- Between two numbers. -/
theorem btw_iff (p q r : Int) : (min p q ≤ r ∧ r ≤ max p q) ↔ ¬ (0 < p - r ∧ 0 < q - r) ∧ ¬ (p - r < 0 ∧ q - r < 0) := by omega
/-- A number on the line of a piece lies on the piece just if what is seen from it lies on two sides. -/
theorem one_way {U V x y : Int} (h : U * y = V * x) (hs : ori U ≠ ori V) : ¬ (0 < x ∧ 0 < y) ∧ ¬ (x < 0 ∧ y < 0) := by
  rcases Int.lt_trichotomy U 0 with hU | hU | hU <;> rcases Int.lt_trichotomy V 0 with hV | hV | hV
  · exact absurd (by unfold ori; rw [if_neg (by omega), if_pos hU, if_neg (by omega), if_pos hV]) hs
  · subst hV
    rw [Int.zero_mul] at h
    have := zero_of_mul (V := U) (by omega) h.symm
    omega
  · have := opp_sign (U := V) (V := U) (x := x) (y := y) hV hU h.symm
    omega
  · subst hU
    rw [Int.zero_mul] at h
    have := zero_of_mul (V := V) (by omega) h
    omega
  · subst hU; subst hV; exact absurd rfl hs
  · subst hU
    rw [Int.zero_mul] at h
    have := zero_of_mul (V := V) (by omega) h
    omega
  · have := opp_sign (U := U) (V := V) (x := y) (y := x) hU hV h
    omega
  · subst hV
    rw [Int.zero_mul] at h
    have := zero_of_mul (V := U) (by omega) h.symm
    omega
  · exact absurd (by unfold ori; rw [if_neg (by omega), if_neg (by omega), if_neg (by omega), if_neg (by omega)]) hs
theorem other_way {U V x y x2 y2 : Int} (h : U * y = V * x) (h2 : U * y2 = V * x2) (hne : ¬ (U = 0 ∧ V = 0)) (hs : ori U = ori V) (b1 : ¬ (0 < x ∧ 0 < y) ∧ ¬ (x < 0 ∧ y < 0)) (b2 : ¬ (0 < x2 ∧ 0 < y2) ∧ ¬ (x2 < 0 ∧ y2 < 0)) : x = 0 ∧ y = 0 ∧ x2 = 0 ∧ y2 = 0 := by
  have hc : (0 < U ∧ 0 < V) ∨ (U < 0 ∧ V < 0) := by
    unfold ori at hs
    split at hs <;> split at hs <;> omega
  rcases hc with ⟨hU, hV⟩ | ⟨hU, hV⟩
  · have a := same_sign hU hV h
    have b := same_sign hU hV h2
    omega
  · have a := same_sign (U := -U) (V := -V) (x := y) (y := x) (by omega) (by omega) (by rw [Int.neg_mul, Int.neg_mul, h])
    have b := same_sign (U := -U) (V := -V) (x := y2) (y := x2) (by omega) (by omega) (by rw [Int.neg_mul, Int.neg_mul, h2])
    omega
def btw (px py ax ay bx b_y : Int) : Prop := (min ax bx ≤ px ∧ px ≤ max ax bx) ∧ (min ay b_y ≤ py ∧ py ≤ max ay b_y)
theorem seen (px py qx qy rx ry sx sy : Int) (hpq : ¬ (px = qx ∧ py = qy)) (hX : side px py qx qy rx ry = 0) (hY : side px py qx qy sx sy ≠ 0) : btw rx ry px py qx qy ↔ ori (side rx ry sx sy px py) ≠ ori (side rx ry sx sy qx qy) := by
  have e1 : side rx ry sx sy px py * (qx - rx) = side rx ry sx sy qx qy * (px - rx) := by
    unfold side at *
    grind
  have e2 : side rx ry sx sy px py * (qy - ry) = side rx ry sx sy qx qy * (py - ry) := by
    unfold side at *
    grind
  have e3 : side rx ry sx sy px py = side px py qx qy sx sy + side rx ry sx sy qx qy := by
    unfold side at *
    grind
  generalize side rx ry sx sy px py = U at *
  generalize side rx ry sx sy qx qy = V at *
  generalize side px py qx qy sx sy = Y at *
  unfold btw
  rw [btw_iff, btw_iff]
  constructor
  · rintro ⟨b1, b2⟩ hs
    have := other_way e1 e2 (by omega) hs b1 b2
    omega
  · intro hs
    exact ⟨one_way e1 hs, one_way e2 hs⟩
/-- Two points on the other two's line, whose line is one: then these lie on theirs, too. -/
theorem both_zero {ax ay bx b_y cx cy dx dy : Int} (hcd : ¬ (cx = dx ∧ cy = dy)) (hC : side cx cy dx dy ax ay = 0) (hD : side cx cy dx dy bx b_y = 0) : side ax ay bx b_y cx cy = 0 ∧ side ax ay bx b_y dx dy = 0 := by
  have e1 : side ax ay bx b_y cx cy * (dx - cx) = 0 := by
    unfold side at *
    grind
  have e2 : side ax ay bx b_y cx cy * (dy - cy) = 0 := by
    unfold side at *
    grind
  have e3 : side ax ay bx b_y cx cy = side ax ay bx b_y dx dy := by
    unfold side at *
    grind
  have hA : side ax ay bx b_y cx cy = 0 := by
    rcases Int.mul_eq_zero.1 e1 with h | h
    · exact h
    · rcases Int.mul_eq_zero.1 e2 with h2 | h2
      · exact h2
      · omega
  exact ⟨hA, e3 ▸ hA⟩
theorem ori_neg (x y : Int) : ori (-x) ≠ ori (-y) ↔ ori x ≠ ori y := by
  unfold ori
  split <;> split <;> split <;> split <;> (try split) <;> (try split) <;> (try split) <;> (try split) <;> omega
theorem onI_iff (px py ax ay bx b_y : Int) : onI px py ax ay bx b_y = true ↔ side ax ay bx b_y px py = 0 ∧ btw px py ax ay bx b_y := by
  unfold onI btw
  simp only [Bool.and_eq_true, decide_eq_true_eq]
  constructor
  · rintro ⟨h1, h2, h3, h4, h5⟩
    exact ⟨h1, ⟨h2, h3⟩, h4, h5⟩
  · rintro ⟨h1, ⟨h2, h3⟩, h4, h5⟩
    exact ⟨h1, h2, h3, h4, h5⟩
theorem onS_imp {ax ay bx b_y cx cy : Int} (h : onS ax ay bx b_y cx cy = true) : btw cx cy ax ay bx b_y := by
  unfold onS at h
  simp only [Bool.and_eq_true, decide_eq_true_eq] at h
  unfold btw
  omega
theorem apart_iff (x y : Int) (hx : x ≠ 0) (hy : y ≠ 0) : apart x y = true ↔ ori x ≠ ori y := by
  unfold apart ori
  simp only [Bool.or_eq_true, Bool.and_eq_true, decide_eq_true_eq]
  rw [if_neg hx, if_neg hy]
  split <;> split <;> omega
theorem apart_zero (x y : Int) (h : x = 0 ∨ y = 0) : apart x y = false := by
  unfold apart
  rcases h with rfl | rfl <;> simp
/-- The law, of whole numbers. -/
theorem seg_cross (ax ay bx b_y cx cy dx dy : Int) (hab : ¬ (ax = bx ∧ ay = b_y)) (hcd : ¬ (cx = dx ∧ cy = dy)) (hs : ¬ (side ax ay bx b_y cx cy = 0 ∧ side ax ay bx b_y dx dy = 0)) : segI ax ay bx b_y cx cy dx dy = crossI ax ay bx b_y cx cy dx dy := by
  have hs2 : ¬ (side cx cy dx dy ax ay = 0 ∧ side cx cy dx dy bx b_y = 0) := fun h => hs (both_zero hcd h.1 h.2)
  have n1 : side cx cy dx dy ax ay ≠ side cx cy dx dy ax ay + 1 := by omega
  have k1 := seen ax ay bx b_y cx cy dx dy hab
  have k2 := seen ax ay bx b_y dx dy cx cy hab
  have k3 := seen cx cy dx dy ax ay bx b_y hcd
  have k4 := seen cx cy dx dy bx b_y ax ay hcd
  have m1 : side dx dy cx cy ax ay = - side cx cy dx dy ax ay := by unfold side; grind
  have m2 : side dx dy cx cy bx b_y = - side cx cy dx dy bx b_y := by unfold side; grind
  have m3 : side bx b_y ax ay cx cy = - side ax ay bx b_y cx cy := by unfold side; grind
  have m4 : side bx b_y ax ay dx dy = - side ax ay bx b_y dx dy := by unfold side; grind
  rw [m1, m2, ori_neg] at k2
  rw [m3, m4, ori_neg] at k4
  have t1 := fun h => onS_imp (ax := ax) (ay := ay) (bx := bx) (b_y := b_y) (cx := cx) (cy := cy) h
  have t2 := fun h => onS_imp (ax := ax) (ay := ay) (bx := bx) (b_y := b_y) (cx := dx) (cy := dy) h
  have t3 := fun h => onS_imp (ax := cx) (ay := cy) (bx := dx) (b_y := dy) (cx := ax) (cy := ay) h
  have t4 := fun h => onS_imp (ax := cx) (ay := cy) (bx := dx) (b_y := dy) (cx := bx) (cy := b_y) h
  rw [Bool.eq_iff_iff]
  unfold segI segB crossI
  simp only [Bool.or_eq_true, Bool.and_eq_true, decide_eq_true_eq, onI_iff, ori_zero]
  have a1 := apart_iff (side ax ay bx b_y cx cy) (side ax ay bx b_y dx dy)
  have a2 := apart_iff (side cx cy dx dy ax ay) (side cx cy dx dy bx b_y)
  have a3 := apart_zero (side ax ay bx b_y cx cy) (side ax ay bx b_y dx dy)
  have a4 := apart_zero (side cx cy dx dy ax ay) (side cx cy dx dy bx b_y)
  have o1 := ori_zero (side ax ay bx b_y cx cy)
  have o2 := ori_zero (side ax ay bx b_y dx dy)
  have o3 := ori_zero (side cx cy dx dy ax ay)
  have o4 := ori_zero (side cx cy dx dy bx b_y)
  generalize side ax ay bx b_y cx cy = A at *
  generalize side ax ay bx b_y dx dy = B at *
  generalize side cx cy dx dy ax ay = C at *
  generalize side cx cy dx dy bx b_y = D at *
  generalize ori A = oa at *
  generalize ori B = ob at *
  generalize ori C = oc at *
  generalize ori D = od at *
  generalize apart A B = p1 at *
  generalize apart C D = p2 at *
  generalize btw cx cy ax ay bx b_y = b1 at *
  generalize btw dx dy ax ay bx b_y = b2 at *
  generalize btw ax ay cx cy dx dy = b3 at *
  generalize btw bx b_y cx cy dx dy = b4 at *
  clear m1 m2 m3 m4 n1 hab hcd
  by_cases hA : A = 0 <;> by_cases hB : B = 0 <;> by_cases hC : C = 0 <;> by_cases hD : D = 0
  all_goals grind
theorem apart_turn (x y : Int) : apart (-y) (-x) = apart x y := by
  rw [Bool.eq_iff_iff]
  unfold apart
  simp only [Bool.or_eq_true, Bool.and_eq_true, decide_eq_true_eq]
  omega
theorem onI_turn (px py ax ay bx b_y : Int) : onI px py bx b_y ax ay = onI px py ax ay bx b_y := by
  have m : side bx b_y ax ay px py = - side ax ay bx b_y px py := by unfold side; grind
  rw [Bool.eq_iff_iff, onI_iff, onI_iff, m]
  unfold btw
  rw [Int.min_comm bx ax, Int.min_comm b_y ay, Int.max_comm bx ax, Int.max_comm b_y ay]
  generalize side ax ay bx b_y px py = A
  constructor
  · rintro ⟨h1, h2⟩
    exact ⟨by omega, h2⟩
  · rintro ⟨h1, h2⟩
    exact ⟨by omega, h2⟩
/-- Backwards it is the same. -/
theorem cross_turned (ax ay bx b_y cx cy dx dy : Int) : crossI dx dy cx cy bx b_y ax ay = crossI ax ay bx b_y cx cy dx dy := by
  have m1 : side dx dy cx cy ax ay = - side cx cy dx dy ax ay := by unfold side; grind
  have m2 : side dx dy cx cy bx b_y = - side cx cy dx dy bx b_y := by unfold side; grind
  have m3 : side bx b_y ax ay cx cy = - side ax ay bx b_y cx cy := by unfold side; grind
  have m4 : side bx b_y ax ay dx dy = - side ax ay bx b_y dx dy := by unfold side; grind
  unfold crossI
  rw [m1, m2, m3, m4, apart_turn, apart_turn, onI_turn dx dy ax ay bx b_y, onI_turn cx cy ax ay bx b_y, onI_turn bx b_y cx cy dx dy, onI_turn ax ay cx cy dx dy]
  generalize onI dx dy ax ay bx b_y = o1
  generalize onI cx cy ax ay bx b_y = o2
  generalize onI bx b_y cx cy dx dy = o3
  generalize onI ax ay cx cy dx dy = o4
  generalize apart (side cx cy dx dy ax ay) (side cx cy dx dy bx b_y) = o5
  generalize apart (side ax ay bx b_y cx cy) (side ax ay bx b_y dx dy) = o6
  cases o1 <;> cases o2 <;> cases o3 <;> cases o4 <;> cases o5 <;> cases o6 <;> rfl
/-- The example. -/
theorem example_ok : segI 0 0 2 2 0 2 2 0 = true := by decide
theorem example_side : ¬ (side 0 0 2 2 0 2 = 0 ∧ side 0 0 2 2 2 0 = 0) ∧ ¬ (side 0 2 2 0 0 0 = 0 ∧ side 0 2 2 0 2 2 = 0) := by decide
/-- Not on one line: nor the other way round. -/
theorem not_turned {ax ay bx b_y cx cy dx dy : Int} (hab : ¬ (ax = bx ∧ ay = b_y)) (hcd : ¬ (cx = dx ∧ cy = dy)) (hs : ¬ (side ax ay bx b_y cx cy = 0 ∧ side ax ay bx b_y dx dy = 0)) : ¬ (side cx cy dx dy ax ay = 0 ∧ side cx cy dx dy bx b_y = 0) ∧ ¬ (side dx dy cx cy bx b_y = 0 ∧ side dx dy cx cy ax ay = 0) ∧ ¬ (side bx b_y ax ay dx dy = 0 ∧ side bx b_y ax ay cx cy = 0) := by
  have m1 : side dx dy cx cy ax ay = - side cx cy dx dy ax ay := by unfold side; grind
  have m2 : side dx dy cx cy bx b_y = - side cx cy dx dy bx b_y := by unfold side; grind
  have m3 : side bx b_y ax ay cx cy = - side ax ay bx b_y cx cy := by unfold side; grind
  have m4 : side bx b_y ax ay dx dy = - side ax ay bx b_y dx dy := by unfold side; grind
  have hs2 : ¬ (side cx cy dx dy ax ay = 0 ∧ side cx cy dx dy bx b_y = 0) := fun h => hs (both_zero hcd h.1 h.2)
  refine ⟨hs2, ?_, ?_⟩
  · rw [m1, m2]
    omega
  · rw [m3, m4]
    omega
end Go.Proofs.Ytjhgmpeoagndjaa.GE
