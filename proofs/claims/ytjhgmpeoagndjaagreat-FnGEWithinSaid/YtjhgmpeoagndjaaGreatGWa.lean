/-
  Exact floats at the program; the steps of a drawn region. Condition: whole numbers from -2,000 to 2,000.
-/
import Derived.Test.YtjhgmpeoagndjaaGreatProg
import Derived.Test.YtjhgmpeoagndjaaGreatFlo
import Derived.Test.YtjhgmpeoagndjaaGreatWMore
import Derived.Test.YtjhgmpeoagndjaaGreatWLast
import Derived.WalkLawsBesides
import Derived.Deep.RegionHeld3
import Derived.Laws.Cover2
import Derived.BigQuiet
import Derived.Deep.QuietTactic
import Derived.RegionTactic
import Derived.ChangeAlike
import Derived.LoopTactic
import Derived.BigCall
import Derived.Lib.Builder
import Derived.KernelRfl
namespace Go.Proofs.YtjhgmpeoagndjaaGreat.GE
open Go.RowKit Go.Proofs.YtjhgmpeoagndjaaGreatW.PrintWords Go.Proofs.YtjhgmpeoagndjaaGreatW.PrintLast Go.Proofs.YtjhgmpeoagndjaaGreatW.PrintMore
open Go.Proofs.YtjhgmpeoagndjaaGreat.Flo
set_option linter.unusedVariables false
set_option linter.unusedSimpArgs false
set_option maxRecDepth 100000
set_option maxHeartbeats 400000

/-- A word of a whole number that is small; that is not great. -/
def Sm (b : Nat) (x : Int) : Prop := IsF b x ∧ -1000 ≤ x ∧ x ≤ 1000
def Sw (b : Nat) (x : Int) : Prop := IsF b x ∧ -2000 ≤ x ∧ x ≤ 2000
theorem Sm.w {b : Nat} {x : Int} (h : Sm b x) : Sw b x := ⟨h.1, by have := h.2; omega, by have := h.2; omega⟩
theorem isF_zero : IsF 0 0 := ⟨false, 0, -1074, by decide, by omega, by simp⟩
theorem run_sub {a b : Nat} {x y : Int} (ha : IsF a x) (hb : IsF b y) (h : (x - y).natAbs < 2 ^ 53) : ∃ r, IsF r (x - y) ∧ ∀ W, (binOp .sub 22 (.float .f64 a) (.float .f64 b)).run Tryz.prog W = .ok (.float .f64 r) W := by
  obtain ⟨r, h1, h2⟩ := sub_ok ha hb h
  exact ⟨r, h2, fun W => run_float_arith W .sub 22 .f64 a b r h1⟩
theorem run_mul {a b : Nat} {x y : Int} (ha : IsF a x) (hb : IsF b y) (h : (x * y).natAbs < 2 ^ 53) : ∃ r, IsF r (x * y) ∧ ∀ W, (binOp .mul 22 (.float .f64 a) (.float .f64 b)).run Tryz.prog W = .ok (.float .f64 r) W := by
  obtain ⟨r, h1, h2⟩ := mul_ok ha hb h
  exact ⟨r, h2, fun W => run_float_arith W .mul 22 .f64 a b r h1⟩
theorem ord {a b : Nat} {x y : Int} (ha : IsF a x) (hb : IsF b y) : FloatKind.f64.format.order a b = some (compare x y) := order_ok ha hb
theorem cmp_eq (x y : Int) : (some (compare x y) == some Ordering.eq) = decide (x = y) := by
  show (some (compareOfLessAndEq x y) == some Ordering.eq) = _
  unfold compareOfLessAndEq
  rcases Int.lt_trichotomy x y with h | h | h
  · have : ¬ x = y := by omega
    simp [h, this]
  · subst h; simp
  · have h1 : ¬ x < y := by omega
    have h2 : ¬ x = y := by omega
    simp [h1, h2]
theorem cmp_lt (x y : Int) : (some (compare x y) == some Ordering.lt) = decide (x < y) := by
  show (some (compareOfLessAndEq x y) == some Ordering.lt) = _
  unfold compareOfLessAndEq
  rcases Int.lt_trichotomy x y with h | h | h
  · simp [h]
  · subst h; simp
  · have h1 : ¬ x < y := by omega
    have h2 : ¬ x = y := by omega
    simp [h1, h2]
theorem cmp_gt (x y : Int) : (some (compare x y) == some Ordering.gt) = decide (y < x) := by
  show (some (compareOfLessAndEq x y) == some Ordering.gt) = _
  unfold compareOfLessAndEq
  rcases Int.lt_trichotomy x y with h | h | h
  · have h1 : ¬ y < x := by omega
    simp [h, h1]
  · subst h; simp
  · have h1 : ¬ x < y := by omega
    have h2 : ¬ x = y := by omega
    simp [h1, h2, h]
theorem run_add {a b : Nat} {x y : Int} (ha : IsF a x) (hb : IsF b y) (h : (x + y).natAbs < 2 ^ 53) : ∃ r, IsF r (x + y) ∧ ∀ W, (binOp .add 22 (.float .f64 a) (.float .f64 b)).run Tryz.prog W = .ok (.float .f64 r) W := by
  obtain ⟨r, h1, h2⟩ := add_ok ha hb h
  exact ⟨r, h2, fun W => run_float_arith W .add 22 .f64 a b r h1⟩
def side (ax ay bx b_y cx cy : Int) : Int := (bx - ax) * (cy - ay) - (b_y - ay) * (cx - ax)
theorem mul_le {x y : Int} (hx : -4000 ≤ x ∧ x ≤ 4000) (hy : -4000 ≤ y ∧ y ≤ 4000) : (x * y).natAbs ≤ 16000000 := by
  rw [Int.natAbs_mul]
  exact Nat.le_trans (Nat.mul_le_mul (show x.natAbs ≤ 4000 by omega) (show y.natAbs ≤ 4000 by omega)) (by decide)
theorem lt_b {a b : Nat} {x y : Int} (ha : IsF a x) (hb : IsF b y) : (FloatKind.f64.format.order a b == some .lt) = decide (x < y) := by rw [ord ha hb, cmp_lt]
theorem gt_b {a b : Nat} {x y : Int} (ha : IsF a x) (hb : IsF b y) : (FloatKind.f64.format.order a b == some .gt) = decide (y < x) := by rw [ord ha hb, cmp_gt]
theorem eq_b {a b : Nat} {x y : Int} (ha : IsF a x) (hb : IsF b y) : (FloatKind.f64.format.order a b == some .eq) = decide (x = y) := by rw [ord ha hb, cmp_eq]
theorem le_b {a b : Nat} {x y : Int} (ha : IsF a x) (hb : IsF b y) : (FloatKind.f64.format.order a b == some .lt || FloatKind.f64.format.order a b == some .eq) = decide (x ≤ y) := by
  rw [ord ha hb, cmp_lt, cmp_eq]
  rcases Int.lt_trichotomy x y with h | h | h
  · have h1 : x ≤ y := by omega
    simp [h, h1]
  · subst h; simp
  · have h1 : ¬ x < y := by omega
    have h2 : ¬ x = y := by omega
    have h3 : ¬ x ≤ y := by omega
    simp [h1, h2, h3]
theorem ge_b {a b : Nat} {x y : Int} (ha : IsF a x) (hb : IsF b y) : (FloatKind.f64.format.order a b == some .gt || FloatKind.f64.format.order a b == some .eq) = decide (y ≤ x) := by
  rw [ord ha hb, cmp_gt, cmp_eq]
  rcases Int.lt_trichotomy x y with h | h | h
  · have h1 : ¬ y < x := by omega
    have h2 : ¬ x = y := by omega
    have h3 : ¬ y ≤ x := by omega
    simp [h1, h2, h3]
  · subst h; simp
  · have h1 : y ≤ x := by omega
    simp [h, h1]
theorem three {w w2 : World} {o1 o2 o3 : Obj} (hb : Below (((w.alloc o1).alloc o2).alloc o3).heap.size (((w.alloc o1).alloc o2).alloc o3) w2) : w2.heap[w.heap.size]? = some o1 ∧ w2.heap[w.heap.size + 1]? = some o2 ∧ w2.heap[w.heap.size + 1 + 1]? = some o3 ∧ Below w.heap.size w w2 := by
  have a1 := heap_alloc_new w o1
  have b1 := below_alloc (Below.refl w.heap.size w) o1
  have s1 : (w.alloc o1).heap.size = w.heap.size + 1 := by simp
  generalize w.alloc o1 = v1 at *
  have a2 := heap_alloc_new v1 o2
  have b2 := below_alloc (Below.refl v1.heap.size v1) o2
  have s2 : (v1.alloc o2).heap.size = v1.heap.size + 1 := by simp
  generalize v1.alloc o2 = v2 at *
  have a3 := heap_alloc_new v2 o3
  have b3 := below_alloc (Below.refl v2.heap.size v2) o3
  have s3 : (v2.alloc o3).heap.size = v2.heap.size + 1 := by simp
  generalize v2.alloc o3 = v3 at *
  rw [s1] at a2 s2
  rw [s2] at a3 s3
  refine ⟨?_, ?_, ?_, ?_⟩
  · exact (hb.block _ (by omega)).trans ((b3.block _ (by omega)).trans ((b2.block _ (by omega)).trans a1))
  · exact (hb.block _ (by omega)).trans ((b3.block _ (by omega)).trans a2)
  · exact (hb.block _ (by omega)).trans a3
  · exact b1.trans ((b2.mono (by omega)).trans ((b3.mono (by omega)).trans (hb.mono (by omega))))
theorem four {w w2 : World} {o1 o2 o3 o4 : Obj} (hb : Below ((((w.alloc o1).alloc o2).alloc o3).alloc o4).heap.size ((((w.alloc o1).alloc o2).alloc o3).alloc o4) w2) : w2.heap[w.heap.size]? = some o1 ∧ w2.heap[w.heap.size + 1]? = some o2 ∧ w2.heap[w.heap.size + 1 + 1]? = some o3 ∧ w2.heap[w.heap.size + 1 + 1 + 1]? = some o4 ∧ Below w.heap.size w w2 := by
  have s1 : (w.alloc o1).heap.size = w.heap.size + 1 := by simp
  have h := three (w := w.alloc o1) (o1 := o2) (o2 := o3) (o3 := o4) hb
  rw [s1] at h
  have a1 := heap_alloc_new w o1
  have b1 := below_alloc (Below.refl w.heap.size w) o1
  exact ⟨(h.2.2.2.block _ (by omega)).trans a1, h.1, h.2.1, h.2.2.1, b1.trans (h.2.2.2.mono (by omega))⟩
/-- The two cells of a point's box. -/
theorem ptc {w : World} {g t : Nat} {a b : Nat} (h : w.heap[g]? = some (.cells #[.float .f64 a, .float .f64 b] t (0, 0))) : w.cell? ⟨g, 0, none⟩ = some (.float .f64 a) ∧ w.cell? ⟨g, 1, none⟩ = some (.float .f64 b) := ⟨by rw [Lib.cell_of_heap h]; rfl, by rw [Lib.cell_of_heap h]; rfl⟩
abbrev pt (a b : Nat) : Value := .agg #[.float .f64 a, .float .f64 b]
abbrev po (a b : Nat) : Obj := .cells #[.float .f64 a, .float .f64 b] 24 (0, 0)
section
variable {P : Program} {md : Region.Mode} {ops : Array Oper} {Q : Exit → Act → World → Prop} {S : World → Prop}
/-- An operation taken first, its place by name. -/
theorem take_ {i : Nat} {oi : Oper} {N : Option Tmp} {v : Value} {fuel : Nat} {listed : Array Bool} {a : Act} {w : World} (hi : ops[i]? = some oi)
    (hs : Region.noSelect ops = true) (hf : Region.free md ops listed i = true) (hr : (Region.ready md ops listed).contains i = true)
    (hQ : ∀ c a w, Q (.panic c) (a.put oi.dst v) w → Q (.panic c) a w) (hN : oi.dst = N) (hy : YieldsIf P ops S oi v a) (hS : S w)
    (h : wpAnyH P md ops Q S fuel (listed.setIfInBounds i true) (a.put N v) w) : wpAnyH P md ops Q S (fuel + 1) listed a w := by
  subst hN
  exact wpAnyH_take hi hs hf hr hQ hy hS h
end
/-- A small whole number of the program's, as a float. -/
theorem isF_nat (n : Nat) (h : n < 2 ^ 53) : IsF (floatOfInt .f64 n) n := by
  have hq : Q n 0 (n * 2 ^ E) := by
    unfold Q
    rw [show ((0 : Int) + 1074).toNat = E by rw [E_eq]; decide, show (-((0 : Int) + 1074)).toNat = 0 by decide, Nat.pow_zero, Nat.mul_one]
  have hw := write_ok false n 0 n E h (by rw [E_eq]; omega) hq
  have he : floatOfInt .f64 n = Ieee.double.write (.number false n 0) := by
    unfold floatOfInt FloatKind.nearest
    rw [show decide ((n : Int) < 0) = false from decide_eq_false (by omega), Int.natAbs_natCast]
    rfl
  unfold IsF
  rw [he]
  simp only [Bool.false_eq_true, if_false, Int.natCast_mul] at hw
  exact hw
end Go.Proofs.YtjhgmpeoagndjaaGreat.GE
