/-
  The plain law of a point and a rectangle: on its edge, in its inside, outside. No condition.
-/
import Derived.Test.YtjhgmpeoagndjaaGreatGWm
namespace Go.Proofs.YtjhgmpeoagndjaaGreat.GE
set_option linter.unusedVariables false
set_option linter.unusedSimpArgs false
set_option maxHeartbeats 400000

/-- The corners of a rectangle, the first one again at the end. -/
def recL (x y w h : Int) : List (Int × Int) := [(x, y), (x + w, y), (x + w, y + h), (x, y + h), (x, y)]
theorem rec_ax (x y w h : Int) (k : Nat) (hk : k + 1 < 5) : ((recL x y w h).getD k (0, 0)).2 = ((recL x y w h).getD (k + 1) (0, 0)).2 ∨ ((recL x y w h).getD k (0, 0)).1 = ((recL x y w h).getD (k + 1) (0, 0)).1 := by
  match k, hk with
  | 0, _ => exact .inl rfl
  | 1, _ => exact .inr rfl
  | 2, _ => exact .inl rfl
  | 3, _ => exact .inr rfl
theorem on_h {ax ay bx : Int} (h : ax ≠ bx) (px py : Int) : (inB ax ay bx ay px py && decide (side ax ay bx ay px py = 0)) = decide (min ax bx ≤ px ∧ px ≤ max ax bx ∧ py = ay) := by
  have e : side ax ay bx ay px py = (bx - ax) * (py - ay) := by unfold side; grind
  have k : side ax ay bx ay px py = 0 ↔ py = ay := by
    rw [e]
    constructor
    · intro h2
      rcases Int.mul_eq_zero.1 h2 with h3 | h3 <;> omega
    · intro h2; rw [h2, Int.sub_self, Int.mul_zero]
  rw [Bool.eq_iff_iff]
  simp only [inB, Bool.and_eq_true, decide_eq_true_eq, k]
  omega
theorem on_v {ax ay b_y : Int} (h : ay ≠ b_y) (px py : Int) : (inB ax ay ax b_y px py && decide (side ax ay ax b_y px py = 0)) = decide (min ay b_y ≤ py ∧ py ≤ max ay b_y ∧ px = ax) := by
  have e : side ax ay ax b_y px py = (b_y - ay) * (ax - px) := by unfold side; grind
  have k : side ax ay ax b_y px py = 0 ↔ px = ax := by
    rw [e]
    constructor
    · intro h2
      rcases Int.mul_eq_zero.1 h2 with h3 | h3 <;> omega
    · intro h2; rw [h2, Int.sub_self, Int.mul_zero]
  rw [Bool.eq_iff_iff]
  simp only [inB, Bool.and_eq_true, decide_eq_true_eq, k]
  omega
theorem rec_bnd (x y w h px py : Int) (hw : 0 < w) (hh : 0 < h) : (List.range (5 - 1)).any (onB (px, py) (recL x y w h)) = decide ((x ≤ px ∧ px ≤ x + w ∧ y ≤ py ∧ py ≤ y + h) ∧ (px = x ∨ px = x + w ∨ py = y ∨ py = y + h)) := by
  have e0 : onB (px, py) (recL x y w h) 0 = _ := on_h (ax := x) (ay := y) (bx := x + w) (by omega) px py
  have e1 : onB (px, py) (recL x y w h) 1 = _ := on_v (ax := x + w) (ay := y) (b_y := y + h) (by omega) px py
  have e2 : onB (px, py) (recL x y w h) 2 = _ := on_h (ax := x + w) (ay := y + h) (bx := x) (by omega) px py
  have e3 : onB (px, py) (recL x y w h) 3 = _ := on_v (ax := x) (ay := y + h) (b_y := y) (by omega) px py
  show (onB (px, py) (recL x y w h) 0 || (onB (px, py) (recL x y w h) 1 || (onB (px, py) (recL x y w h) 2 || (onB (px, py) (recL x y w h) 3 || false)))) = _
  rw [e0, e1, e2, e3, Bool.eq_iff_iff]
  simp only [Bool.or_eq_true, Bool.or_false, decide_eq_true_eq]
  omega
theorem rec_cr (x y w h px py : Int) (hw : 0 < w) (hh : 0 < h) : crB (px, py) (recL x y w h) (5 - 1) = decide (x ≤ px ∧ px < x + w ∧ y < py ∧ py ≤ y + h) := by
  have e0 : hitB (px, py) (recL x y w h) 0 = false := by
    show (!decide (y = y) && _) = false
    simp
  have e2 : hitB (px, py) (recL x y w h) 2 = false := by
    show (!decide (y + h = y + h) && _) = false
    simp
  have e1 : hitB (px, py) (recL x y w h) 1 = decide (y < py ∧ py ≤ y + h ∧ px < x + w) := by
    show (!decide (y = y + h) && (!decide (py ≤ min y (y + h)) && (!decide (max y (y + h) < py) && !decide (max (x + w) (x + w) ≤ px)))) = _
    rw [Bool.eq_iff_iff]
    simp only [Bool.and_eq_true, Bool.not_eq_true', decide_eq_false_iff_not, decide_eq_true_eq]
    omega
  have e3 : hitB (px, py) (recL x y w h) 3 = decide (y < py ∧ py ≤ y + h ∧ px < x) := by
    show (!decide (y + h = y) && (!decide (py ≤ min (y + h) y) && (!decide (max (y + h) y < py) && !decide (max x x ≤ px)))) = _
    rw [Bool.eq_iff_iff]
    simp only [Bool.and_eq_true, Bool.not_eq_true', decide_eq_false_iff_not, decide_eq_true_eq]
    omega
  have c1 : crB (px, py) (recL x y w h) 1 = false := by rw [crB, e0]; rfl
  have c2 : crB (px, py) (recL x y w h) 2 = decide (y < py ∧ py ≤ y + h ∧ px < x + w) := by
    rw [crB, e1, c1]
    cases decide (y < py ∧ py ≤ y + h ∧ px < x + w) <;> rfl
  have c3 : crB (px, py) (recL x y w h) 3 = decide (y < py ∧ py ≤ y + h ∧ px < x + w) := by rw [crB, e2, c2]; rfl
  show crB (px, py) (recL x y w h) 4 = _
  rw [crB, e3, c3]
  by_cases h1 : y < py ∧ py ≤ y + h ∧ px < x
  · rw [decide_eq_true h1, if_pos rfl, decide_eq_true (by omega), decide_eq_false (by omega)]; rfl
  · rw [decide_eq_false h1, if_neg (by decide), decide_eq_decide]
    omega
/-- What the program says of a point and a rectangle. -/
def bndR (x y w h px py : Int) : Bool := (List.range (5 - 1)).any (onB (px, py) (recL x y w h))
def crR (x y w h px py : Int) : Bool := crB (px, py) (recL x y w h) (5 - 1)
def insR (u v w h : Int) : Bool := decide (0 < u) && (decide (u < w) && (decide (0 < v) && decide (v < h)))
def outR (u v w h : Int) : Bool := decide (u < 0) || (decide (w < u) || (decide (v < 0) || decide (h < v)))
theorem rec_inter (x y w h px py : Int) (hw : 0 < w) (hh : 0 < h) : (bndR x y w h px py || crR x y w h px py) = !outR (px - x) (py - y) w h := by
  unfold bndR crR outR
  rw [rec_bnd x y w h px py hw hh, rec_cr x y w h px py hw hh, Bool.eq_iff_iff]
  simp only [Bool.or_eq_true, Bool.not_eq_true', Bool.or_eq_false_iff, decide_eq_true_eq, decide_eq_false_iff_not]
  omega
theorem rec_in (x y w h px py : Int) (hw : 0 < w) (hh : 0 < h) (hi : insR (px - x) (py - y) w h = true) : (!bndR x y w h px py && crR x y w h px py) = true := by
  unfold insR at hi
  unfold bndR crR
  rw [rec_bnd x y w h px py hw hh, rec_cr x y w h px py hw hh]
  simp only [Bool.and_eq_true, Bool.not_eq_true', decide_eq_true_eq, decide_eq_false_iff_not] at *
  omega
theorem rec_out (x y w h px py : Int) (hw : 0 < w) (hh : 0 < h) (hi : outR (px - x) (py - y) w h = true) : (!bndR x y w h px py && crR x y w h px py) = false := by
  unfold outR at hi
  unfold bndR crR
  rw [rec_bnd x y w h px py hw hh, rec_cr x y w h px py hw hh]
  rw [Bool.and_eq_false_iff]
  right
  simp only [Bool.or_eq_true, decide_eq_true_eq, decide_eq_false_iff_not] at *
  omega
theorem rec_law (x y w h px py : Int) (hw : 0 < w) (hh : 0 < h) : ((!insR (px - x) (py - y) w h || (!bndR x y w h px py && crR x y w h px py)) && (!outR (px - x) (py - y) w h || !(!bndR x y w h px py && crR x y w h px py))) = true := by
  have h1 := rec_in x y w h px py hw hh
  have h2 := rec_out x y w h px py hw hh
  generalize insR (px - x) (py - y) w h = i at *
  generalize outR (px - x) (py - y) w h = o at *
  generalize (!bndR x y w h px py && crR x y w h px py) = e at *
  cases i <;> cases o <;> cases e <;> simp_all
theorem rec_known : (!bndR 0 0 2 2 1 1 && crR 0 0 2 2 1 1) = true := rec_in 0 0 2 2 1 1 (by decide) (by decide) (by decide)
end Go.Proofs.YtjhgmpeoagndjaaGreat.GE
