/-
  Contracts of spec.geSide, geApart, GEOn, GEStraight, GECross at small whole numbers. Condition: whole numbers from -1,000 to 1,000.
-/
import Derived.Test.YtjhgmpeoagndjaaProg
import Derived.Test.YtjhgmpeoagndjaaFlo
import Derived.Test.YtjhgmpeoagndjaaWMore
import Derived.Test.YtjhgmpeoagndjaaWLast
import Derived.WalkLawsBesides
import Derived.BigQuiet
import Derived.Deep.QuietTactic
import Derived.RegionTactic
import Derived.ChangeAlike
import Derived.LoopTactic
import Derived.BigCall
import Derived.Lib.Builder
import Derived.KernelRfl
namespace Go.Proofs.Ytjhgmpeoagndjaa.GE
open Go.RowKit Go.Proofs.YtjhgmpeoagndjaaW.PrintWords Go.Proofs.YtjhgmpeoagndjaaW.PrintLast Go.Proofs.YtjhgmpeoagndjaaW.PrintMore
open Go.Proofs.Ytjhgmpeoagndjaa.Flo
set_option linter.unusedVariables false
set_option linter.unusedSimpArgs false
set_option maxRecDepth 100000
set_option maxHeartbeats 400000

/-- A word of a whole number that is not great. -/
def Sm (b : Nat) (x : Int) : Prop := IsF b x ∧ -1000 ≤ x ∧ x ≤ 1000
theorem isF_zero : IsF 0 0 := ⟨false, 0, -1074, by decide, by omega, by simp⟩
theorem run_sub {a b : Nat} {x y : Int} (ha : IsF a x) (hb : IsF b y) (h : (x - y).natAbs < 2 ^ 53) : ∃ r, IsF r (x - y) ∧ ∀ W, (binOp .sub 22 (.float .f64 a) (.float .f64 b)).run Try.prog W = .ok (.float .f64 r) W := by
  obtain ⟨r, h1, h2⟩ := sub_ok ha hb h
  exact ⟨r, h2, fun W => run_float_arith W .sub 22 .f64 a b r h1⟩
theorem run_mul {a b : Nat} {x y : Int} (ha : IsF a x) (hb : IsF b y) (h : (x * y).natAbs < 2 ^ 53) : ∃ r, IsF r (x * y) ∧ ∀ W, (binOp .mul 22 (.float .f64 a) (.float .f64 b)).run Try.prog W = .ok (.float .f64 r) W := by
  obtain ⟨r, h1, h2⟩ := mul_ok ha hb h
  exact ⟨r, h2, fun W => run_float_arith W .mul 22 .f64 a b r h1⟩
theorem ord {a b : Nat} {x y : Int} (ha : IsF a x) (hb : IsF b y) : FloatKind.f64.format.order a b = some (compare x y) := order_ok ha hb
theorem cmp_eq (x y : Int) : (some (compare x y) == some Ordering.eq) = decide (x = y) := by
  show (some (compareOfLessAndEq x y) == some Ordering.eq) = _
  unfold compareOfLessAndEq
  rcases Int.lt_trichotomy x y with h | h | h
  · have : ¬ x = y := by omega
    simp [h, this]
  · subst h; simp
  · have h1 : ¬ x < y := by omega
    have h2 : ¬ x = y := by omega
    simp [h1, h2]
theorem cmp_lt (x y : Int) : (some (compare x y) == some Ordering.lt) = decide (x < y) := by
  show (some (compareOfLessAndEq x y) == some Ordering.lt) = _
  unfold compareOfLessAndEq
  rcases Int.lt_trichotomy x y with h | h | h
  · simp [h]
  · subst h; simp
  · have h1 : ¬ x < y := by omega
    have h2 : ¬ x = y := by omega
    simp [h1, h2]
theorem cmp_gt (x y : Int) : (some (compare x y) == some Ordering.gt) = decide (y < x) := by
  show (some (compareOfLessAndEq x y) == some Ordering.gt) = _
  unfold compareOfLessAndEq
  rcases Int.lt_trichotomy x y with h | h | h
  · have h1 : ¬ y < x := by omega
    simp [h, h1]
  · subst h; simp
  · have h1 : ¬ x < y := by omega
    have h2 : ¬ x = y := by omega
    simp [h1, h2, h]
def side (ax ay bx b_y cx cy : Int) : Int := (bx - ax) * (cy - ay) - (b_y - ay) * (cx - ax)
theorem mul_le {x y : Int} (hx : -2000 ≤ x ∧ x ≤ 2000) (hy : -2000 ≤ y ∧ y ≤ 2000) : (x * y).natAbs ≤ 4000000 := by
  rw [Int.natAbs_mul]
  exact Nat.mul_le_mul (show x.natAbs ≤ 2000 by omega) (show y.natAbs ≤ 2000 by omega)
theorem geSide_ok (a0 a1 b0 b1 c0 c1 : Nat) (ax ay bx b_y cx cy : Int) (h1 : Sm a0 ax) (h2 : Sm a1 ay) (h3 : Sm b0 bx) (h4 : Sm b1 b_y) (h5 : Sm c0 cx) (h6 : Sm c1 cy) :
    ∃ r, IsF r (side ax ay bx b_y cx cy) ∧ ∀ w, Calls Try.prog 12 #[.agg #[.float .f64 a0, .float .f64 a1], .agg #[.float .f64 b0, .float .f64 b1], .agg #[.float .f64 c0, .float .f64 c1]] w fun e w' => e = .returned (.float .f64 r) ∧ Below w.heap.size w w' := by
  obtain ⟨f1, l1, u1⟩ := h1
  obtain ⟨f2, l2, u2⟩ := h2
  obtain ⟨f3, l3, u3⟩ := h3
  obtain ⟨f4, l4, u4⟩ := h4
  obtain ⟨f5, l5, u5⟩ := h5
  obtain ⟨f6, l6, u6⟩ := h6
  obtain ⟨r1, g1, e1⟩ := run_sub f3 f1 (by omega)
  obtain ⟨r2, g2, e2⟩ := run_sub f6 f2 (by omega)
  have m1 := mul_le (x := bx - ax) (y := cy - ay) (by omega) (by omega)
  obtain ⟨r3, g3, e3⟩ := run_mul g1 g2 (by omega)
  obtain ⟨r4, g4, e4⟩ := run_sub f4 f2 (by omega)
  obtain ⟨r5, g5, e5⟩ := run_sub f5 f1 (by omega)
  have m2 := mul_le (x := b_y - ay) (y := cx - ax) (by omega) (by omega)
  obtain ⟨r6, g6, e6⟩ := run_mul g4 g5 (by omega)
  obtain ⟨r7, g7, e7⟩ := run_sub g3 g6 (by omega)
  refine ⟨r7, g7, fun w => ?_⟩
  clear f1 f2 f3 f4 f5 f6 g1 g2 g3 g4 g5 g6 g7 m1 m2 l1 l2 l3 l4 l5 l6 u1 u2 u3 u4 u5 u6
  go_enter Try.func12, Try.ntmps12
  go_wp2
  go_ret
  exact ⟨rfl, by repeat (first | (with_reducible exact Below.refl _ _) | (with_reducible apply below_alloc) | (with_reducible apply below_drew))⟩
theorem lt_b {a b : Nat} {x y : Int} (ha : IsF a x) (hb : IsF b y) : (FloatKind.f64.format.order a b == some .lt) = decide (x < y) := by rw [ord ha hb, cmp_lt]
theorem gt_b {a b : Nat} {x y : Int} (ha : IsF a x) (hb : IsF b y) : (FloatKind.f64.format.order a b == some .gt) = decide (y < x) := by rw [ord ha hb, cmp_gt]
theorem eq_b {a b : Nat} {x y : Int} (ha : IsF a x) (hb : IsF b y) : (FloatKind.f64.format.order a b == some .eq) = decide (x = y) := by rw [ord ha hb, cmp_eq]
theorem le_b {a b : Nat} {x y : Int} (ha : IsF a x) (hb : IsF b y) : (FloatKind.f64.format.order a b == some .lt || FloatKind.f64.format.order a b == some .eq) = decide (x ≤ y) := by
  rw [ord ha hb, cmp_lt, cmp_eq]
  rcases Int.lt_trichotomy x y with h | h | h
  · have h1 : x ≤ y := by omega
    simp [h, h1]
  · subst h; simp
  · have h1 : ¬ x < y := by omega
    have h2 : ¬ x = y := by omega
    have h3 : ¬ x ≤ y := by omega
    simp [h1, h2, h3]
def apart (x y : Int) : Bool := (decide (x < 0) && decide (0 < y)) || (decide (0 < x) && decide (y < 0))
theorem geApart_ok (a b : Nat) (x y : Int) (ha : IsF a x) (hb : IsF b y) (w : World) : Calls Try.prog 16 #[.float .f64 a, .float .f64 b] w fun e w' => e = .returned (.bool (apart x y)) ∧ Below w.heap.size w w' := by
  have h1 := lt_b ha isF_zero
  have h2 := gt_b ha isF_zero
  have h3 := lt_b hb isF_zero
  have h4 := gt_b hb isF_zero
  unfold apart
  clear ha hb
  generalize decide (x < 0) = b1 at *
  generalize decide (0 < x) = b2 at *
  generalize decide (y < 0) = b3 at *
  generalize decide (0 < y) = b4 at *
  cases b1 <;> cases b2 <;> cases b3 <;> cases b4
  all_goals
    go_enter Try.func16, Try.ntmps16
    go_wp2
    go_ret
    exact ⟨rfl, by repeat (first | (with_reducible exact Below.refl _ _) | (with_reducible apply below_alloc) | (with_reducible apply below_drew))⟩
/-- min and max of two. -/
theorem run_min {a b : Nat} {x y : Int} (ha : IsF a x) (hb : IsF b y) : ∃ r, IsF r (min x y) ∧ ∀ (ts : Array TypeId) (t : TypeId) (W : World), (Builtin.min_ ts t #[.float .f64 a, .float .f64 b]).run Try.prog W = .ok (.float .f64 r) W := by
  have ho := ord ha hb
  rcases Int.lt_trichotomy x y with h | h | h
  · refine ⟨a, by rwa [Int.min_eq_left (by omega)], fun ts t W => ?_⟩
    have hc : compare x y = .lt := by show compareOfLessAndEq x y = _; unfold compareOfLessAndEq; rw [if_pos h]
    simp [Builtin.min_, Builtin.min2, ho, hc]
  · subst h
    have hc : compare x x = .eq := by show compareOfLessAndEq x x = _; unfold compareOfLessAndEq; simp
    refine ⟨if (FloatKind.f64.decode a).neg then a else b, ?_, fun ts t W => ?_⟩
    · rw [Int.min_self]
      split
      · exact ha
      · exact hb
    · simp [Builtin.min_, Builtin.min2, ho, hc]
  · refine ⟨b, by rwa [Int.min_eq_right (by omega)], fun ts t W => ?_⟩
    have hc : compare x y = .gt := by
      show compareOfLessAndEq x y = _
      unfold compareOfLessAndEq
      rw [if_neg (show ¬ x < y by omega), if_neg (show ¬ x = y by omega)]
    simp [Builtin.min_, Builtin.min2, ho, hc]
theorem run_max {a b : Nat} {x y : Int} (ha : IsF a x) (hb : IsF b y) : ∃ r, IsF r (max x y) ∧ ∀ (ts : Array TypeId) (t : TypeId) (W : World), (Builtin.max_ ts t #[.float .f64 a, .float .f64 b]).run Try.prog W = .ok (.float .f64 r) W := by
  have ho := ord ha hb
  rcases Int.lt_trichotomy x y with h | h | h
  · refine ⟨b, by rwa [Int.max_eq_right (by omega)], fun ts t W => ?_⟩
    have hc : compare x y = .lt := by show compareOfLessAndEq x y = _; unfold compareOfLessAndEq; rw [if_pos h]
    simp [Builtin.max_, Builtin.max2, ho, hc]
  · subst h
    have hc : compare x x = .eq := by show compareOfLessAndEq x x = _; unfold compareOfLessAndEq; simp
    refine ⟨if (FloatKind.f64.decode a).neg then b else a, ?_, fun ts t W => ?_⟩
    · rw [Int.max_self]
      split
      · exact hb
      · exact ha
    · simp [Builtin.max_, Builtin.max2, ho, hc]
  · refine ⟨a, by rwa [Int.max_eq_left (by omega)], fun ts t W => ?_⟩
    have hc : compare x y = .gt := by
      show compareOfLessAndEq x y = _
      unfold compareOfLessAndEq
      rw [if_neg (show ¬ x < y by omega), if_neg (show ¬ x = y by omega)]
    simp [Builtin.max_, Builtin.max2, ho, hc]
theorem three {w w2 : World} {o1 o2 o3 : Obj} (hb : Below (((w.alloc o1).alloc o2).alloc o3).heap.size (((w.alloc o1).alloc o2).alloc o3) w2) : w2.heap[w.heap.size]? = some o1 ∧ w2.heap[w.heap.size + 1]? = some o2 ∧ w2.heap[w.heap.size + 1 + 1]? = some o3 ∧ Below w.heap.size w w2 := by
  have a1 := heap_alloc_new w o1
  have b1 := below_alloc (Below.refl w.heap.size w) o1
  have s1 : (w.alloc o1).heap.size = w.heap.size + 1 := by simp
  generalize w.alloc o1 = v1 at *
  have a2 := heap_alloc_new v1 o2
  have b2 := below_alloc (Below.refl v1.heap.size v1) o2
  have s2 : (v1.alloc o2).heap.size = v1.heap.size + 1 := by simp
  generalize v1.alloc o2 = v2 at *
  have a3 := heap_alloc_new v2 o3
  have b3 := below_alloc (Below.refl v2.heap.size v2) o3
  have s3 : (v2.alloc o3).heap.size = v2.heap.size + 1 := by simp
  generalize v2.alloc o3 = v3 at *
  rw [s1] at a2 s2
  rw [s2] at a3 s3
  refine ⟨?_, ?_, ?_, ?_⟩
  · exact (hb.block _ (by omega)).trans ((b3.block _ (by omega)).trans ((b2.block _ (by omega)).trans a1))
  · exact (hb.block _ (by omega)).trans ((b3.block _ (by omega)).trans a2)
  · exact (hb.block _ (by omega)).trans a3
  · exact b1.trans ((b2.mono (by omega)).trans ((b3.mono (by omega)).trans (hb.mono (by omega))))
theorem four {w w2 : World} {o1 o2 o3 o4 : Obj} (hb : Below ((((w.alloc o1).alloc o2).alloc o3).alloc o4).heap.size ((((w.alloc o1).alloc o2).alloc o3).alloc o4) w2) : w2.heap[w.heap.size]? = some o1 ∧ w2.heap[w.heap.size + 1]? = some o2 ∧ w2.heap[w.heap.size + 1 + 1]? = some o3 ∧ w2.heap[w.heap.size + 1 + 1 + 1]? = some o4 ∧ Below w.heap.size w w2 := by
  have s1 : (w.alloc o1).heap.size = w.heap.size + 1 := by simp
  have h := three (w := w.alloc o1) (o1 := o2) (o2 := o3) (o3 := o4) hb
  rw [s1] at h
  have a1 := heap_alloc_new w o1
  have b1 := below_alloc (Below.refl w.heap.size w) o1
  exact ⟨(h.2.2.2.block _ (by omega)).trans a1, h.1, h.2.1, h.2.2.1, b1.trans (h.2.2.2.mono (by omega))⟩
/-- The two cells of a point's box. -/
theorem ptc {w : World} {g t : Nat} {a b : Nat} (h : w.heap[g]? = some (.cells #[.float .f64 a, .float .f64 b] t (0, 0))) : w.cell? ⟨g, 0, none⟩ = some (.float .f64 a) ∧ w.cell? ⟨g, 1, none⟩ = some (.float .f64 b) := ⟨by rw [Lib.cell_of_heap h]; rfl, by rw [Lib.cell_of_heap h]; rfl⟩
def onI (px py ax ay bx b_y : Int) : Bool := decide (side ax ay bx b_y px py = 0) && (decide (min ax bx ≤ px) && (decide (px ≤ max ax bx) && (decide (min ay b_y ≤ py) && decide (py ≤ max ay b_y))))
theorem geOn_ok (p0 p1 a0 a1 b0 b1 : Nat) (px py ax ay bx b_y : Int) (h5 : Sm p0 px) (h6 : Sm p1 py) (h1 : Sm a0 ax) (h2 : Sm a1 ay) (h3 : Sm b0 bx) (h4 : Sm b1 b_y) (w : World) :
    Calls Try.prog 15 #[.agg #[.float .f64 p0, .float .f64 p1], .agg #[.float .f64 a0, .float .f64 a1], .agg #[.float .f64 b0, .float .f64 b1]] w fun e w' => e = .returned (.bool (onI px py ax ay bx b_y)) ∧ Below w.heap.size w w' := by
  obtain ⟨r, hr, hC⟩ := geSide_ok a0 a1 b0 b1 p0 p1 ax ay bx b_y px py h1 h2 h3 h4 h5 h6
  have e1 := eq_b hr isF_zero
  obtain ⟨r1, g1, q1⟩ := run_min h1.1 h3.1
  obtain ⟨r2, g2, q2⟩ := run_max h1.1 h3.1
  obtain ⟨r3, g3, q3⟩ := run_min h2.1 h4.1
  obtain ⟨r4, g4, q4⟩ := run_max h2.1 h4.1
  have e2 := le_b g1 h5.1
  have e3 := le_b h5.1 g2
  have e4 := le_b g3 h6.1
  have e5 := le_b h6.1 g4
  unfold onI
  generalize decide (side ax ay bx b_y px py = 0) = c1 at *
  generalize decide (min ax bx ≤ px) = c2 at *
  generalize decide (px ≤ max ax bx) = c3 at *
  generalize decide (min ay b_y ≤ py) = c4 at *
  generalize decide (py ≤ max ay b_y) = c5 at *
  clear h1 h2 h3 h4 h5 h6 hr g1 g2 g3 g4
  have HC := Aside0.mk hC
  clear hC
  cases c1 <;> cases c2 <;> cases c3 <;> cases c4 <;> cases c5
  all_goals
    go_enter Try.func15, Try.ntmps15
    go_wp2_with fail
    refine (HC.out _).mono ?_
    rintro e w2 ⟨rfl, hb⟩
    obtain ⟨k1, k2, k3, kb⟩ := three hb
    obtain ⟨x1, x2⟩ := ptc k1
    obtain ⟨x3, x4⟩ := ptc k2
    obtain ⟨x5, x6⟩ := ptc k3
    have KB := Aside0.mk kb
    clear hb k1 k2 k3 kb HC
    go_wp2
    go_ret
    exact ⟨rfl, KB.out⟩
end Go.Proofs.Ytjhgmpeoagndjaa.GE
