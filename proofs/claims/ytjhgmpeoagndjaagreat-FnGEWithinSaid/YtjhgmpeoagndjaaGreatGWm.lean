/-
  Contracts of linesIntersect (where both cross) and isPointWithinClosedLineString (lines along the axes). Condition: small whole numbers.
-/
import Derived.Test.YtjhgmpeoagndjaaGreatGWk
namespace Go.Proofs.YtjhgmpeoagndjaaGreat.GE
open Go.RowKit Go.Proofs.YtjhgmpeoagndjaaGreatW.PrintWords Go.Proofs.YtjhgmpeoagndjaaGreatW.PrintLast Go.Proofs.YtjhgmpeoagndjaaGreatW.PrintMore
open Go.Proofs.YtjhgmpeoagndjaaGreat.Flo
set_option linter.unusedVariables false
set_option linter.unusedSimpArgs false
set_option maxRecDepth 100000
set_option maxHeartbeats 4000000

theorem cross_ok (s1 s2 s3 s4 : Int) (a0 a1 b0 b1 c0 c1 d0 d1 : Nat) (ax ay bx b_y cx cy dx dy : Int) (h1 : Sw a0 ax) (h2 : Sw a1 ay) (h3 : Sw b0 bx) (h4 : Sw b1 b_y) (h5 : Sw c0 cx) (h6 : Sw c1 cy) (h7 : Sw d0 dx) (h8 : Sw d1 dy) (hs : ori (side ax ay bx b_y cx cy) ≠ ori (side ax ay bx b_y dx dy)) (ht : ori (side cx cy dx dy ax ay) ≠ ori (side cx cy dx dy bx b_y)) (w : World) :
    Calls Tryz.prog 49 #[tp s1 a0 a1, tp s2 b0 b1, tp s3 c0 c1, tp s4 d0 d1] w fun e w' => e = .returned (.bool true) ∧ Below w.heap.size w w' := by
  have H1 := Aside0.mk (fun W => orient_ok s1 s2 s3 a0 a1 b0 b1 c0 c1 _ _ _ _ _ _ h1 h2 h3 h4 h5 h6 W)
  have H2 := Aside0.mk (fun W => orient_ok s1 s2 s4 a0 a1 b0 b1 d0 d1 _ _ _ _ _ _ h1 h2 h3 h4 h7 h8 W)
  have H3 := Aside0.mk (fun W => orient_ok s3 s4 s1 c0 c1 d0 d1 a0 a1 _ _ _ _ _ _ h5 h6 h7 h8 h1 h2 W)
  have H4 := Aside0.mk (fun W => orient_ok s3 s4 s2 c0 c1 d0 d1 b0 b1 _ _ _ _ _ _ h5 h6 h7 h8 h3 h4 W)
  generalize ori (side ax ay bx b_y cx cy) = o1 at *
  generalize ori (side ax ay bx b_y dx dy) = o2 at *
  generalize ori (side cx cy dx dy ax ay) = o3 at *
  generalize ori (side cx cy dx dy bx b_y) = o4 at *
  have e1 : (o1 == o2) = false := by simpa using hs
  have e2 : (o3 == o4) = false := by simpa using ht
  have F := Aside0.mk (fun (W : World) (h : Below ((((w.alloc (tb s1 a0 a1)).alloc (tb s2 b0 b1)).alloc (tb s3 c0 c1)).alloc (tb s4 d0 d1)).heap.size ((((w.alloc (tb s1 a0 a1)).alloc (tb s2 b0 b1)).alloc (tb s3 c0 c1)).alloc (tb s4 d0 d1)) W) => four h)
  have e3 : (o1 != o2) = true := by simpa using hs
  have e4 : (o3 != o4) = true := by simpa using ht
  clear h1 h2 h3 h4 h5 h6 h7 h8 hs ht e1 e2
  go_enter Tryz.func49, Tryz.ntmps49
  go_wp2_with fail
  refine (H1.out _).mono ?_
  rintro e v1 ⟨rfl, hb⟩
  have B := Aside0.mk hb
  clear hb
  obtain ⟨f1, f2, f3, f4, -⟩ := F.out _ B.out
  obtain ⟨x0, x1, x2⟩ := tpc f1
  obtain ⟨y0, y1, y2⟩ := tpc f2
  obtain ⟨z0, z1, z2⟩ := tpc f3
  obtain ⟨u0, u1, u2⟩ := tpc f4
  go_wp2_with fail
  refine (H2.out _).mono ?_
  rintro e v2 ⟨rfl, hb⟩
  have B := Aside0.mk (below_step B.out hb)
  clear hb x0 x1 x2 y0 y1 y2 z0 z1 z2 u0 u1 u2 f1 f2 f3 f4
  obtain ⟨f1, f2, f3, f4, -⟩ := F.out _ B.out
  obtain ⟨x0, x1, x2⟩ := tpc f1
  obtain ⟨y0, y1, y2⟩ := tpc f2
  obtain ⟨z0, z1, z2⟩ := tpc f3
  obtain ⟨u0, u1, u2⟩ := tpc f4
  go_wp2_with fail
  refine (H3.out _).mono ?_
  rintro e v3 ⟨rfl, hb⟩
  have B := Aside0.mk (below_step B.out hb)
  clear hb x0 x1 x2 y0 y1 y2 z0 z1 z2 u0 u1 u2 f1 f2 f3 f4
  obtain ⟨f1, f2, f3, f4, -⟩ := F.out _ B.out
  obtain ⟨x0, x1, x2⟩ := tpc f1
  obtain ⟨y0, y1, y2⟩ := tpc f2
  obtain ⟨z0, z1, z2⟩ := tpc f3
  obtain ⟨u0, u1, u2⟩ := tpc f4
  go_wp2_with fail
  refine (H4.out _).mono ?_
  rintro e v4 ⟨rfl, hb⟩
  have B := Aside0.mk (below_step B.out hb)
  clear hb x0 x1 x2 y0 y1 y2 z0 z1 z2 u0 u1 u2 f1 f2 f3 f4
  obtain ⟨f1, f2, f3, f4, B5⟩ := F.out _ B.out
  go_wp2_with fail
  go_ret
  exact ⟨rfl, B5⟩
def hitB (p : Int × Int) (L : List (Int × Int)) (j : Nat) : Bool :=
  !decide ((L.getD j (0, 0)).2 = (L.getD (j + 1) (0, 0)).2) && (!decide (p.2 ≤ min (L.getD j (0, 0)).2 (L.getD (j + 1) (0, 0)).2) && (!decide (max (L.getD j (0, 0)).2 (L.getD (j + 1) (0, 0)).2 < p.2) && !decide (max (L.getD j (0, 0)).1 (L.getD (j + 1) (0, 0)).1 ≤ p.1)))
def crB (p : Int × Int) (L : List (Int × Int)) : Nat → Bool
  | 0 => false
  | k + 1 => if hitB p L k then !crB p L k else crB p L k
theorem cr_no {p : Int × Int} {L : List (Int × Int)} {k : Nat} (h : hitB p L k = false) : crB p L k = crB p L (k + 1) := by rw [crB, h]; rfl
theorem cr_yes {p : Int × Int} {L : List (Int × Int)} {k : Nat} (h : hitB p L k = true) : (!crB p L k) = crB p L (k + 1) := by rw [crB, h]; rfl
theorem ori_eq {x y : Int} (hx : x = 0) (hy : y ≠ 0) : ori y ≠ ori x := by
  subst hx
  unfold ori
  split
  · contradiction
  · split <;> simp
theorem ori_lt {x y z : Int} (hz : 0 < z) (h : x < 0 ∧ 0 ≤ y ∨ 0 ≤ x ∧ y < 0) : ori (z * x) ≠ ori (z * y) := by
  have key : ∀ t : Int, (t < 0 → ori (z * t) = 1) ∧ (t = 0 → ori (z * t) = 0) ∧ (0 < t → ori (z * t) = 2) := by
    intro t
    refine ⟨fun h => ?_, fun h => ?_, fun h => ?_⟩
    · have := Int.mul_neg_of_pos_of_neg hz h
      unfold ori; rw [if_neg (by omega), if_pos this]
    · subst h; rw [Int.mul_zero]; rfl
    · have := Int.mul_pos hz h
      unfold ori; rw [if_neg (by omega), if_neg (by omega)]
  have k1 := key x
  have k2 := key y
  rcases h with ⟨h1, h2⟩ | ⟨h1, h2⟩
  · rw [k1.1 h1]
    rcases Int.lt_or_eq_of_le h2 with h3 | h3
    · rw [k2.2.2 h3]; decide
    · rw [k2.2.1 h3.symm]; decide
  · rw [k2.1 h2]
    rcases Int.lt_or_eq_of_le h1 with h3 | h3
    · rw [k1.2.2 h3]; decide
    · rw [k1.2.1 h3.symm]; decide
/-- A piece along the second axis, and one from a point to it along the first one, cross. -/
theorem axes_cross {ax ay bx b_y px py : Int} (hx : ax = bx) (hy : ay ≠ b_y) (h1 : ¬ py ≤ min ay b_y) (h2 : ¬ max ay b_y < py) (h3 : ¬ max ax bx ≤ px) :
    ori (side ax ay bx b_y px py) ≠ ori (side ax ay bx b_y (max ax bx) py) ∧ ori (side px py (max ax bx) py ax ay) ≠ ori (side px py (max ax bx) py bx b_y) := by
  subst hx
  have hm : max ax ax = ax := by omega
  rw [hm] at *
  have e1 : side ax ay ax b_y px py = (b_y - ay) * (ax - px) := by unfold side; grind
  have e2 : side ax ay ax b_y ax py = 0 := by unfold side; grind
  have e3 : side px py ax py ax ay = (ax - px) * (ay - py) := by unfold side; grind
  have e4 : side px py ax py ax b_y = (ax - px) * (b_y - py) := by unfold side; grind
  rw [e1, e2, e3, e4]
  refine ⟨ori_eq rfl ?_, ori_lt (by omega) (by omega)⟩
  intro h
  rcases Int.mul_eq_zero.1 h with h | h <;> omega
end Go.Proofs.YtjhgmpeoagndjaaGreat.GE
