/-
  Contracts of orientation, isInBBox, linesIntersect at small whole numbers. Condition: whole numbers from -2,000 to 2,000.
-/
import Derived.Test.YtjhgmpeoagndjaaGreatGWa
namespace Go.Proofs.YtjhgmpeoagndjaaGreat.GE
open Go.RowKit Go.Proofs.YtjhgmpeoagndjaaGreatW.PrintWords Go.Proofs.YtjhgmpeoagndjaaGreatW.PrintLast Go.Proofs.YtjhgmpeoagndjaaGreatW.PrintMore
open Go.Proofs.YtjhgmpeoagndjaaGreat.Flo
set_option linter.unusedVariables false
set_option linter.unusedSimpArgs false
set_option maxRecDepth 100000
set_option maxHeartbeats 400000

/-- A point of the program's, its box. -/
abbrev tp (s : Int) (a b : Nat) : Value := .agg #[.int .u32 s, .float .f64 a, .float .f64 b]
abbrev tb (s : Int) (a b : Nat) : Obj := .cells #[.int .u32 s, .float .f64 a, .float .f64 b] 50 (0, 0)
theorem tpc {w : World} {g t : Nat} {s : Int} {a b : Nat} (h : w.heap[g]? = some (.cells #[.int .u32 s, .float .f64 a, .float .f64 b] t (0, 0))) : w.cell? ⟨g, 0, none⟩ = some (.int .u32 s) ∧ w.cell? ⟨g, 1, none⟩ = some (.float .f64 a) ∧ w.cell? ⟨g, 2, none⟩ = some (.float .f64 b) := ⟨by rw [Lib.cell_of_heap h]; rfl, by rw [Lib.cell_of_heap h]; rfl, by rw [Lib.cell_of_heap h]; rfl⟩
def ori (s : Int) : Int := if s = 0 then 0 else if s < 0 then 1 else 2
theorem val_side (ax ay bx b_y cx cy : Int) : (b_y - ay) * (cx - bx) - (bx - ax) * (cy - b_y) = - side ax ay bx b_y cx cy := by
  unfold side
  grind
theorem orient_ok (s1 s2 s3 : Int) (a0 a1 b0 b1 c0 c1 : Nat) (ax ay bx b_y cx cy : Int) (h1 : Sw a0 ax) (h2 : Sw a1 ay) (h3 : Sw b0 bx) (h4 : Sw b1 b_y) (h5 : Sw c0 cx) (h6 : Sw c1 cy) (w : World) :
    Calls Tryz.prog 47 #[tp s1 a0 a1, tp s2 b0 b1, tp s3 c0 c1] w fun e w' => e = .returned (.int .i64 (ori (side ax ay bx b_y cx cy))) ∧ Below w.heap.size w w' := by
  obtain ⟨f1, l1, u1⟩ := h1
  obtain ⟨f2, l2, u2⟩ := h2
  obtain ⟨f3, l3, u3⟩ := h3
  obtain ⟨f4, l4, u4⟩ := h4
  obtain ⟨f5, l5, u5⟩ := h5
  obtain ⟨f6, l6, u6⟩ := h6
  obtain ⟨r1, g1, e1⟩ := run_sub f4 f2 (by omega)
  obtain ⟨r2, g2, e2⟩ := run_sub f5 f3 (by omega)
  have m1 := mul_le (x := b_y - ay) (y := cx - bx) (by omega) (by omega)
  obtain ⟨r3, g3, e3⟩ := run_mul g1 g2 (by omega)
  obtain ⟨r4, g4, e4⟩ := run_sub f6 f4 (by omega)
  obtain ⟨r5, g5, e5⟩ := run_sub f3 f1 (by omega)
  have m2 := mul_le (x := bx - ax) (y := cy - b_y) (by omega) (by omega)
  obtain ⟨r6, g6, e6⟩ := run_mul g5 g4 (by omega)
  obtain ⟨r7, g7, e7⟩ := run_sub g3 g6 (by omega)
  rw [val_side] at g7
  have o1 := lt_b g7 isF_zero
  have o2 := gt_b g7 isF_zero
  generalize side ax ay bx b_y cx cy = S at *
  clear f1 f2 f3 f4 f5 f6 g1 g2 g3 g4 g5 g6 g7 m1 m2 l1 l2 l3 l4 l5 l6 u1 u2 u3 u4 u5 u6
  unfold ori
  by_cases hz : S = 0
  · subst hz
    simp only [if_true]
    have o2' : (FloatKind.f64.format.order r7 0 == some .gt) = false := o2.trans (decide_eq_false (by omega))
    have o1' : (FloatKind.f64.format.order r7 0 == some .lt) = false := o1.trans (decide_eq_false (by omega))
    clear o1 o2
    go_enter Tryz.func47, Tryz.ntmps47
    go_wp2
    go_ret
    exact ⟨rfl, by repeat (first | (with_reducible exact Below.refl _ _) | (with_reducible apply below_alloc) | (with_reducible apply below_drew))⟩
  · rw [if_neg hz]
    by_cases hn : S < 0
    · rw [if_pos hn]
      have o2' : (FloatKind.f64.format.order r7 0 == some .gt) = true := o2.trans (decide_eq_true (by omega))
      have o1' : (FloatKind.f64.format.order r7 0 == some .lt) = false := o1.trans (decide_eq_false (by omega))
      clear o1 o2
      go_enter Tryz.func47, Tryz.ntmps47
      go_wp2
      go_ret
      exact ⟨rfl, by repeat (first | (with_reducible exact Below.refl _ _) | (with_reducible apply below_alloc) | (with_reducible apply below_drew))⟩
    · rw [if_neg hn]
      have o2' : (FloatKind.f64.format.order r7 0 == some .gt) = false := o2.trans (decide_eq_false (by omega))
      have o1' : (FloatKind.f64.format.order r7 0 == some .lt) = true := o1.trans (decide_eq_true (by omega))
      clear o1 o2
      go_enter Tryz.func47, Tryz.ntmps47
      go_wp2
      go_ret
      exact ⟨rfl, by repeat (first | (with_reducible exact Below.refl _ _) | (with_reducible apply below_alloc) | (with_reducible apply below_drew))⟩
/-- math's min and max of two. -/
theorem read_num {a : Nat} {x : Int} (h : IsF a x) : ∃ s m e, FloatKind.f64.decode a = .number s m e := by
  obtain ⟨s, m, e, h1, _⟩ := h
  exact ⟨s, m, e, h1⟩
def pickB (neg : Bool) (win : Ordering) (x y : Nat) : Nat :=
  if FloatKind.f64.decode x == .infinity neg || FloatKind.f64.decode y == .infinity neg then FloatKind.f64.encode (.infinity neg)
  else if (FloatKind.f64.decode x).isNaN || (FloatKind.f64.decode y).isNaN then 0x7FF8000000000001
  else if (FloatKind.f64.decode x).isZero && (FloatKind.f64.decode y).isZero then (if (FloatKind.f64.decode x).neg == neg then x else y)
  else if (FloatKind.f64.decode x).order (FloatKind.f64.decode y) == some win then x else y
theorem run_archMin (a b : Nat) (w : World) : (callFunc 52 #[.float .f64 a, .float .f64 b]).run Tryz.prog w = .ok (.value (.float .f64 (pickB true .lt a b))) w := by kernel_rfl
theorem run_archMax (a b : Nat) (w : World) : (callFunc 54 #[.float .f64 a, .float .f64 b]).run Tryz.prog w = .ok (.value (.float .f64 (pickB false .gt a b))) w := by kernel_rfl
theorem zero_of {a : Nat} {x : Int} (h : IsF a x) (hz : (FloatKind.f64.decode a).isZero = true) : x = 0 := by
  obtain ⟨s, m, e, h1, h2, h3⟩ := isF_parts h
  have h4 : FloatKind.f64.decode a = .number s m e := h1
  rw [h4] at hz
  have hm : m = 0 := by
    cases m with
    | zero => rfl
    | succ m => cases hz
  subst hm
  rw [Nat.zero_mul] at h3
  have h5 : sgn s 0 = 0 := by unfold sgn; cases s <;> rfl
  rw [h5] at h3
  have hP := P_pos
  rcases Int.mul_eq_zero.1 h3.symm with h | h
  · exact h
  · omega
theorem pick_min {a b : Nat} {x y : Int} (ha : IsF a x) (hb : IsF b y) : IsF (pickB true .lt a b) (min x y) := by
  obtain ⟨s, m, e, h1⟩ := read_num ha
  obtain ⟨t, n, j, h2⟩ := read_num hb
  unfold pickB
  have c1 : (FloatKind.f64.decode a == .infinity true || FloatKind.f64.decode b == .infinity true) = false := by rw [h1, h2]; rfl
  have c2 : ((FloatKind.f64.decode a).isNaN || (FloatKind.f64.decode b).isNaN) = false := by rw [h1, h2]; rfl
  rw [c1, c2]
  simp only [Bool.false_eq_true, if_false]
  have ho : ((FloatKind.f64.decode a).order (FloatKind.f64.decode b) == some .lt) = decide (x < y) := lt_b ha hb
  rw [ho]
  by_cases hz : ((FloatKind.f64.decode a).isZero && (FloatKind.f64.decode b).isZero) = true
  · rw [if_pos hz]
    rw [Bool.and_eq_true] at hz
    have hx := zero_of ha hz.1
    have hy := zero_of hb hz.2
    subst hx
    subst hy
    split
    · exact ha
    · exact hb
  · rw [if_neg hz]
    by_cases h : x < y
    · rw [if_pos (decide_eq_true h), Int.min_eq_left (by omega)]
      exact ha
    · rw [if_neg (by simpa using h), Int.min_eq_right (by omega)]
      exact hb
theorem pick_max {a b : Nat} {x y : Int} (ha : IsF a x) (hb : IsF b y) : IsF (pickB false .gt a b) (max x y) := by
  obtain ⟨s, m, e, h1⟩ := read_num ha
  obtain ⟨t, n, j, h2⟩ := read_num hb
  unfold pickB
  have c1 : (FloatKind.f64.decode a == .infinity false || FloatKind.f64.decode b == .infinity false) = false := by rw [h1, h2]; rfl
  have c2 : ((FloatKind.f64.decode a).isNaN || (FloatKind.f64.decode b).isNaN) = false := by rw [h1, h2]; rfl
  rw [c1, c2]
  simp only [Bool.false_eq_true, if_false]
  have ho : ((FloatKind.f64.decode a).order (FloatKind.f64.decode b) == some .gt) = decide (y < x) := gt_b ha hb
  rw [ho]
  by_cases hz : ((FloatKind.f64.decode a).isZero && (FloatKind.f64.decode b).isZero) = true
  · rw [if_pos hz]
    rw [Bool.and_eq_true] at hz
    have hx := zero_of ha hz.1
    have hy := zero_of hb hz.2
    subst hx
    subst hy
    split
    · exact ha
    · exact hb
  · rw [if_neg hz]
    by_cases h : y < x
    · rw [if_pos (decide_eq_true h), Int.max_eq_left (by omega)]
      exact ha
    · rw [if_neg (by simpa using h), Int.max_eq_right (by omega)]
      exact hb
theorem min_ok (a b : Nat) (w : World) : Calls Tryz.prog 50 #[.float .f64 a, .float .f64 b] w fun e w' => e = .returned (.float .f64 (pickB true .lt a b)) ∧ Below w.heap.size w w' := by
  have h := run_archMin a b
  go_enter Tryz.func50, Tryz.ntmps50
  go_wp2
  go_ret
  exact ⟨rfl, Below.refl _ _⟩
theorem max_ok (a b : Nat) (w : World) : Calls Tryz.prog 51 #[.float .f64 a, .float .f64 b] w fun e w' => e = .returned (.float .f64 (pickB false .gt a b)) ∧ Below w.heap.size w w' := by
  have h := run_archMax a b
  go_enter Tryz.func51, Tryz.ntmps51
  go_wp2
  go_ret
  exact ⟨rfl, Below.refl _ _⟩
def inB (ax ay bx b_y cx cy : Int) : Bool := decide (min ax bx ≤ cx) && (decide (cx ≤ max ax bx) && (decide (min ay b_y ≤ cy) && decide (cy ≤ max ay b_y)))
theorem inBBox_ok (s1 s2 s3 : Int) (a0 a1 b0 b1 c0 c1 : Nat) (ax ay bx b_y cx cy : Int) (h1 : Sw a0 ax) (h2 : Sw a1 ay) (h3 : Sw b0 bx) (h4 : Sw b1 b_y) (h5 : Sw c0 cx) (h6 : Sw c1 cy) (w : World) :
    Calls Tryz.prog 46 #[tp s1 a0 a1, tp s2 b0 b1, tp s3 c0 c1] w fun e w' => e = .returned (.bool (inB ax ay bx b_y cx cy)) ∧ Below w.heap.size w w' := by
  have q1 := pick_min h1.1 h3.1
  have q2 := pick_max h1.1 h3.1
  have q3 := pick_min h2.1 h4.1
  have q4 := pick_max h2.1 h4.1
  have e1 := ge_b h5.1 q1
  have e2 := le_b h5.1 q2
  have e3 := ge_b h6.1 q3
  have e4 := le_b h6.1 q4
  have M1 := Aside0.mk (fun W => min_ok a0 b0 W)
  have M2 := Aside0.mk (fun W => max_ok a0 b0 W)
  have M3 := Aside0.mk (fun W => min_ok a1 b1 W)
  have M4 := Aside0.mk (fun W => max_ok a1 b1 W)
  unfold inB
  generalize pickB true .lt a0 b0 = r1 at *
  generalize pickB false .gt a0 b0 = r2 at *
  generalize pickB true .lt a1 b1 = r3 at *
  generalize pickB false .gt a1 b1 = r4 at *
  generalize decide (min ax bx ≤ cx) = k1 at *
  generalize decide (cx ≤ max ax bx) = k2 at *
  generalize decide (min ay b_y ≤ cy) = k3 at *
  generalize decide (cy ≤ max ay b_y) = k4 at *
  clear q1 q2 q3 q4 h1 h2 h3 h4 h5 h6
  cases k1
  case false =>
    go_enter Tryz.func46, Tryz.ntmps46
    go_wp2
    refine wp_region_noPanic ?_
    refine wp_region_held_drew (S := fun W => W.cell? ⟨w.heap.size, 1, none⟩ = some (.float .f64 a0) ∧ W.cell? ⟨w.heap.size, 2, none⟩ = some (.float .f64 a1) ∧ W.cell? ⟨w.heap.size + 1, 1, none⟩ = some (.float .f64 b0) ∧ W.cell? ⟨w.heap.size + 1, 2, none⟩ = some (.float .f64 b1) ∧ W.cell? ⟨w.heap.size + 1 + 1, 1, none⟩ = some (.float .f64 c0) ∧ W.cell? ⟨w.heap.size + 1 + 1, 2, none⟩ = some (.float .f64 c1) ∧ Below w.heap.size w W) (by kernel_rfl) ?_ (fun hHeld => ?_)
    · (first | (go_split_ands; refine ⟨?_, ?_, ?_, ?_, ?_, ?_, ?_⟩ <;> assumption) | (go_split_ands; exact ⟨pw_cell_below hb (by assumption), pw_cell_below hb (by assumption), pw_cell_below hb (by assumption), pw_cell_below hb (by assumption), pw_cell_below hb (by assumption), pw_cell_below hb (by assumption), below_step (by assumption) hb⟩) | (refine ⟨?_, ?_, ?_, ?_, ?_, ?_, ?_⟩; (iterate 6 (focus (first | assumption | (simp [go_sem]; done) | (simp [go_sem, *]; done)))); repeat (first | (with_reducible exact Below.refl _ _) | (with_reducible apply below_drew) | (with_reducible apply below_alloc))))
    refine take_ (oi := ?oi1) (i := 0) (N := some 7) (v := ?v1) ?hi1 (by kernel_rfl) (by kernel_rfl) (by kernel_rfl) ?hQ1 ?hN1 (Or.inl ⟨?hw1, ?hy1⟩) (by assumption) ?rest1
    case hi1 => simp only [List.getElem?_toArray, List.getElem?_cons_zero, List.getElem?_cons_succ]; rfl
    case hQ1 => exact fun _ _ _ h => h
    case hN1 => rfl
    case hw1 => rfl
    case hy1 => intro W hSw; (try dsimp only at hSw); go_split_ands; go_simp; (try with_reducible rfl)
    simp only [Act.put, List.setIfInBounds_toArray, List.set_cons_zero, List.set_cons_succ]
    refine take_ (oi := ?oi2) (i := 1) (N := some 8) (v := ?v2) ?hi2 (by kernel_rfl) (by kernel_rfl) (by kernel_rfl) ?hQ2 ?hN2 (Or.inl ⟨?hw2, ?hy2⟩) (by assumption) ?rest2
    case hi2 => simp only [List.getElem?_toArray, List.getElem?_cons_zero, List.getElem?_cons_succ]; rfl
    case hQ2 => exact fun _ _ _ h => h
    case hN2 => rfl
    case hw2 => rfl
    case hy2 => intro W hSw; (try dsimp only at hSw); go_split_ands; go_simp; (try with_reducible rfl)
    simp only [Act.put, List.setIfInBounds_toArray, List.set_cons_zero, List.set_cons_succ]
    refine take_ (oi := ?oi3) (i := 2) (N := some 9) (v := ?v3) ?hi3 (by kernel_rfl) (by kernel_rfl) (by kernel_rfl) ?hQ3 ?hN3 (Or.inl ⟨?hw3, ?hy3⟩) (by assumption) ?rest3
    case hi3 => simp only [List.getElem?_toArray, List.getElem?_cons_zero, List.getElem?_cons_succ]; rfl
    case hQ3 => exact fun _ _ _ h => h
    case hN3 => rfl
    case hw3 => rfl
    case hy3 => intro W hSw; (try dsimp only at hSw); go_split_ands; go_simp; (try with_reducible rfl)
    simp only [Act.put, List.setIfInBounds_toArray, List.set_cons_zero, List.set_cons_succ]
    refine take_ (oi := ?oi4) (i := 3) (N := some 10) (v := ?v4) ?hi4 (by kernel_rfl) (by kernel_rfl) (by kernel_rfl) ?hQ4 ?hN4 (Or.inl ⟨?hw4, ?hy4⟩) (by assumption) ?rest4
    case hi4 => simp only [List.getElem?_toArray, List.getElem?_cons_zero, List.getElem?_cons_succ]; rfl
    case hQ4 => exact fun _ _ _ h => h
    case hN4 => rfl
    case hw4 => rfl
    case hy4 => intro W hSw; (try dsimp only at hSw); go_split_ands; go_simp; (try with_reducible rfl)
    simp only [Act.put, List.setIfInBounds_toArray, List.set_cons_zero, List.set_cons_succ]
    refine take_ (oi := ?oi5) (i := 4) (N := some 11) (v := ?v5) ?hi5 (by kernel_rfl) (by kernel_rfl) (by kernel_rfl) ?hQ5 ?hN5 (Or.inl ⟨?hw5, ?hy5⟩) (by assumption) ?rest5
    case hi5 => simp only [List.getElem?_toArray, List.getElem?_cons_zero, List.getElem?_cons_succ]; rfl
    case hQ5 => exact fun _ _ _ h => h
    case hN5 => rfl
    case hw5 => rfl
    case hy5 => intro W hSw; (try dsimp only at hSw); go_split_ands; go_simp; (try with_reducible rfl)
    simp only [Act.put, List.setIfInBounds_toArray, List.set_cons_zero, List.set_cons_succ]
    refine take_ (oi := ?oi6) (i := 5) (N := some 12) (v := ?v6) ?hi6 (by kernel_rfl) (by kernel_rfl) (by kernel_rfl) ?hQ6 ?hN6 (Or.inl ⟨?hw6, ?hy6⟩) (by assumption) ?rest6
    case hi6 => simp only [List.getElem?_toArray, List.getElem?_cons_zero, List.getElem?_cons_succ]; rfl
    case hQ6 => exact fun _ _ _ h => h
    case hN6 => rfl
    case hw6 => rfl
    case hy6 => intro W hSw; (try dsimp only at hSw); go_split_ands; go_simp; (try with_reducible rfl)
    simp only [Act.put, List.setIfInBounds_toArray, List.set_cons_zero, List.set_cons_succ]
    refine wpAnyH_ready (rs := [6]) (by kernel_rfl) (by simp) ?_
    refine AllReadyH.cons (o := ?oi7) ?hi7 (fun K hK => ?step7) AllReadyH.nil
    case hi7 => simp only [List.getElem?_toArray, List.getElem?_cons_zero, List.getElem?_cons_succ]; rfl
    refine goes_ (N := some 13) Tryz.func50 (by kernel_rfl) rfl #[.float .f64 a0, .float .f64 b0] (by rfl) rfl rfl (by (try simp only [List.map_toArray, List.map_cons, List.map_nil]); rfl) ?_
    refine (M1.out _).mono ?_
    rintro e v6 ⟨rfl, hb⟩
    refine ⟨_, rfl, ?_⟩
    refine hK.out _ _ ?_ (fun hHeld => ?_)
    · (first | (go_split_ands; refine ⟨?_, ?_, ?_, ?_, ?_, ?_, ?_⟩ <;> assumption) | (go_split_ands; exact ⟨pw_cell_below hb (by assumption), pw_cell_below hb (by assumption), pw_cell_below hb (by assumption), pw_cell_below hb (by assumption), pw_cell_below hb (by assumption), pw_cell_below hb (by assumption), below_step (by assumption) hb⟩) | (refine ⟨?_, ?_, ?_, ?_, ?_, ?_, ?_⟩; (iterate 6 (focus (first | assumption | (simp [go_sem]; done) | (simp [go_sem, *]; done)))); repeat (first | (with_reducible exact Below.refl _ _) | (with_reducible apply below_drew) | (with_reducible apply below_alloc))))
    clear hK K
    simp only [Act.put, List.setIfInBounds_toArray, List.set_cons_zero, List.set_cons_succ]
    refine take_ (oi := ?oi8) (i := 7) (N := some 14) (v := ?v8) ?hi8 (by kernel_rfl) (by kernel_rfl) (by kernel_rfl) ?hQ8 ?hN8 (Or.inl ⟨?hw8, ?hy8⟩) (by assumption) ?rest8
    case hi8 => simp only [List.getElem?_toArray, List.getElem?_cons_zero, List.getElem?_cons_succ]; rfl
    case hQ8 => exact fun _ _ _ h => h
    case hN8 => rfl
    case hw8 => rfl
    case hy8 => intro W hSw; (try dsimp only at hSw); go_split_ands; go_simp; (try with_reducible rfl)
    simp only [Act.put, List.setIfInBounds_toArray, List.set_cons_zero, List.set_cons_succ]
    refine take_ (oi := ?oi9) (i := 8) (N := some 15) (v := ?v9) ?hi9 (by kernel_rfl) (by kernel_rfl) (by kernel_rfl) ?hQ9 ?hN9 (Or.inl ⟨?hw9, ?hy9⟩) (by assumption) ?rest9
    case hi9 => simp only [List.getElem?_toArray, List.getElem?_cons_zero, List.getElem?_cons_succ]; rfl
    case hQ9 => exact fun _ _ _ h => h
    case hN9 => rfl
    case hw9 => rfl
    case hy9 => intro W hSw; (try dsimp only at hSw); go_split_ands; go_simp; (try with_reducible rfl)
    simp only [Act.put, List.setIfInBounds_toArray, List.set_cons_zero, List.set_cons_succ]
    refine take_ (oi := ?oi10) (i := 9) (N := some 16) (v := undef) ?hi10 (by kernel_rfl) (by kernel_rfl) (by kernel_rfl) ?hQ10 ?hN10 (Or.inr ⟨?hw10, rfl⟩) (by assumption) ?rest10
    case hi10 => simp only [List.getElem?_toArray, List.getElem?_cons_zero, List.getElem?_cons_succ]; rfl
    case hQ10 => exact fun _ _ _ h => h
    case hN10 => rfl
    case hw10 => rfl
    simp only [Act.put, List.setIfInBounds_toArray, List.set_cons_zero, List.set_cons_succ]
    refine take_ (oi := ?oi11) (i := 10) (N := some 17) (v := undef) ?hi11 (by kernel_rfl) (by kernel_rfl) (by kernel_rfl) ?hQ11 ?hN11 (Or.inr ⟨?hw11, rfl⟩) (by assumption) ?rest11
    case hi11 => simp only [List.getElem?_toArray, List.getElem?_cons_zero, List.getElem?_cons_succ]; rfl
    case hQ11 => exact fun _ _ _ h => h
    case hN11 => rfl
    case hw11 => rfl
    simp only [Act.put, List.setIfInBounds_toArray, List.set_cons_zero, List.set_cons_succ]
    refine take_ (oi := ?oi12) (i := 11) (N := some 18) (v := undef) ?hi12 (by kernel_rfl) (by kernel_rfl) (by kernel_rfl) ?hQ12 ?hN12 (Or.inr ⟨?hw12, rfl⟩) (by assumption) ?rest12
    case hi12 => simp only [List.getElem?_toArray, List.getElem?_cons_zero, List.getElem?_cons_succ]; rfl
    case hQ12 => exact fun _ _ _ h => h
    case hN12 => rfl
    case hw12 => rfl
    simp only [Act.put, List.setIfInBounds_toArray, List.set_cons_zero, List.set_cons_succ]
    refine take_ (oi := ?oi13) (i := 12) (N := some 19) (v := undef) ?hi13 (by kernel_rfl) (by kernel_rfl) (by kernel_rfl) ?hQ13 ?hN13 (Or.inr ⟨?hw13, rfl⟩) (by assumption) ?rest13
    case hi13 => simp only [List.getElem?_toArray, List.getElem?_cons_zero, List.getElem?_cons_succ]; rfl
    case hQ13 => exact fun _ _ _ h => h
    case hN13 => rfl
    case hw13 => rfl
    simp only [Act.put, List.setIfInBounds_toArray, List.set_cons_zero, List.set_cons_succ]
    refine take_ (oi := ?oi14) (i := 13) (N := some 20) (v := undef) ?hi14 (by kernel_rfl) (by kernel_rfl) (by kernel_rfl) ?hQ14 ?hN14 (Or.inr ⟨?hw14, rfl⟩) (by assumption) ?rest14
    case hi14 => simp only [List.getElem?_toArray, List.getElem?_cons_zero, List.getElem?_cons_succ]; rfl
    case hQ14 => exact fun _ _ _ h => h
    case hN14 => rfl
    case hw14 => rfl
    simp only [Act.put, List.setIfInBounds_toArray, List.set_cons_zero, List.set_cons_succ]
    refine take_ (oi := ?oi15) (i := 14) (N := some 21) (v := undef) ?hi15 (by kernel_rfl) (by kernel_rfl) (by kernel_rfl) ?hQ15 ?hN15 (Or.inr ⟨?hw15, rfl⟩) (by assumption) ?rest15
    case hi15 => simp only [List.getElem?_toArray, List.getElem?_cons_zero, List.getElem?_cons_succ]; rfl
    case hQ15 => exact fun _ _ _ h => h
    case hN15 => rfl
    case hw15 => rfl
    simp only [Act.put, List.setIfInBounds_toArray, List.set_cons_zero, List.set_cons_succ]
    refine take_ (oi := ?oi16) (i := 15) (N := some 22) (v := undef) ?hi16 (by kernel_rfl) (by kernel_rfl) (by kernel_rfl) ?hQ16 ?hN16 (Or.inr ⟨?hw16, rfl⟩) (by assumption) ?rest16
    case hi16 => simp only [List.getElem?_toArray, List.getElem?_cons_zero, List.getElem?_cons_succ]; rfl
    case hQ16 => exact fun _ _ _ h => h
    case hN16 => rfl
    case hw16 => rfl
    simp only [Act.put, List.setIfInBounds_toArray, List.set_cons_zero, List.set_cons_succ]
    refine take_ (oi := ?oi17) (i := 16) (N := some 23) (v := undef) ?hi17 (by kernel_rfl) (by kernel_rfl) (by kernel_rfl) ?hQ17 ?hN17 (Or.inr ⟨?hw17, rfl⟩) (by assumption) ?rest17
    case hi17 => simp only [List.getElem?_toArray, List.getElem?_cons_zero, List.getElem?_cons_succ]; rfl
    case hQ17 => exact fun _ _ _ h => h
    case hN17 => rfl
    case hw17 => rfl
    simp only [Act.put, List.setIfInBounds_toArray, List.set_cons_zero, List.set_cons_succ]
    refine take_ (oi := ?oi18) (i := 17) (N := some 24) (v := ?v18) ?hi18 (by kernel_rfl) (by kernel_rfl) (by kernel_rfl) ?hQ18 ?hN18 (Or.inl ⟨?hw18, ?hy18⟩) (by assumption) ?rest18
    case hi18 => simp only [List.getElem?_toArray, List.getElem?_cons_zero, List.getElem?_cons_succ]; rfl
    case hQ18 => exact fun _ _ _ h => h
    case hN18 => rfl
    case hw18 => rfl
    case hy18 => intro W hSw; (try dsimp only at hSw); go_split_ands; go_simp; (try with_reducible rfl)
    simp only [Act.put, List.setIfInBounds_toArray, List.set_cons_zero, List.set_cons_succ]
    refine take_ (oi := ?oi19) (i := 18) (N := some 25) (v := ?v19) ?hi19 (by kernel_rfl) (by kernel_rfl) (by kernel_rfl) ?hQ19 ?hN19 (Or.inl ⟨?hw19, ?hy19⟩) (by assumption) ?rest19
    case hi19 => simp only [List.getElem?_toArray, List.getElem?_cons_zero, List.getElem?_cons_succ]; rfl
    case hQ19 => exact fun _ _ _ h => h
    case hN19 => rfl
    case hw19 => rfl
    case hy19 => intro W hSw; (try dsimp only at hSw); go_split_ands; go_simp; (try with_reducible rfl)
    simp only [Act.put, List.setIfInBounds_toArray, List.set_cons_zero, List.set_cons_succ]
    refine take_ (oi := ?oi20) (i := 19) (N := some 26) (v := undef) ?hi20 (by kernel_rfl) (by kernel_rfl) (by kernel_rfl) ?hQ20 ?hN20 (Or.inr ⟨?hw20, rfl⟩) (by assumption) ?rest20
    case hi20 => simp only [List.getElem?_toArray, List.getElem?_cons_zero, List.getElem?_cons_succ]; rfl
    case hQ20 => exact fun _ _ _ h => h
    case hN20 => rfl
    case hw20 => rfl
    simp only [Act.put, List.setIfInBounds_toArray, List.set_cons_zero, List.set_cons_succ]
    refine take_ (oi := ?oi21) (i := 20) (N := some 27) (v := undef) ?hi21 (by kernel_rfl) (by kernel_rfl) (by kernel_rfl) ?hQ21 ?hN21 (Or.inr ⟨?hw21, rfl⟩) (by assumption) ?rest21
    case hi21 => simp only [List.getElem?_toArray, List.getElem?_cons_zero, List.getElem?_cons_succ]; rfl
    case hQ21 => exact fun _ _ _ h => h
    case hN21 => rfl
    case hw21 => rfl
    simp only [Act.put, List.setIfInBounds_toArray, List.set_cons_zero, List.set_cons_succ]
    refine take_ (oi := ?oi22) (i := 21) (N := some 28) (v := undef) ?hi22 (by kernel_rfl) (by kernel_rfl) (by kernel_rfl) ?hQ22 ?hN22 (Or.inr ⟨?hw22, rfl⟩) (by assumption) ?rest22
    case hi22 => simp only [List.getElem?_toArray, List.getElem?_cons_zero, List.getElem?_cons_succ]; rfl
    case hQ22 => exact fun _ _ _ h => h
    case hN22 => rfl
    case hw22 => rfl
    simp only [Act.put, List.setIfInBounds_toArray, List.set_cons_zero, List.set_cons_succ]
    refine take_ (oi := ?oi23) (i := 22) (N := some 29) (v := undef) ?hi23 (by kernel_rfl) (by kernel_rfl) (by kernel_rfl) ?hQ23 ?hN23 (Or.inr ⟨?hw23, rfl⟩) (by assumption) ?rest23
    case hi23 => simp only [List.getElem?_toArray, List.getElem?_cons_zero, List.getElem?_cons_succ]; rfl
    case hQ23 => exact fun _ _ _ h => h
    case hN23 => rfl
    case hw23 => rfl
    simp only [Act.put, List.setIfInBounds_toArray, List.set_cons_zero, List.set_cons_succ]
    refine take_ (oi := ?oi24) (i := 23) (N := some 30) (v := undef) ?hi24 (by kernel_rfl) (by kernel_rfl) (by kernel_rfl) ?hQ24 ?hN24 (Or.inr ⟨?hw24, rfl⟩) (by assumption) ?rest24
    case hi24 => simp only [List.getElem?_toArray, List.getElem?_cons_zero, List.getElem?_cons_succ]; rfl
    case hQ24 => exact fun _ _ _ h => h
    case hN24 => rfl
    case hw24 => rfl
    simp only [Act.put, List.setIfInBounds_toArray, List.set_cons_zero, List.set_cons_succ]
    refine take_ (oi := ?oi25) (i := 24) (N := some 31) (v := undef) ?hi25 (by kernel_rfl) (by kernel_rfl) (by kernel_rfl) ?hQ25 ?hN25 (Or.inr ⟨?hw25, rfl⟩) (by assumption) ?rest25
    case hi25 => simp only [List.getElem?_toArray, List.getElem?_cons_zero, List.getElem?_cons_succ]; rfl
    case hQ25 => exact fun _ _ _ h => h
    case hN25 => rfl
    case hw25 => rfl
    simp only [Act.put, List.setIfInBounds_toArray, List.set_cons_zero, List.set_cons_succ]
    refine take_ (oi := ?oi26) (i := 25) (N := some 32) (v := undef) ?hi26 (by kernel_rfl) (by kernel_rfl) (by kernel_rfl) ?hQ26 ?hN26 (Or.inr ⟨?hw26, rfl⟩) (by assumption) ?rest26
    case hi26 => simp only [List.getElem?_toArray, List.getElem?_cons_zero, List.getElem?_cons_succ]; rfl
    case hQ26 => exact fun _ _ _ h => h
    case hN26 => rfl
    case hw26 => rfl
    simp only [Act.put, List.setIfInBounds_toArray, List.set_cons_zero, List.set_cons_succ]
    refine take_ (oi := ?oi27) (i := 26) (N := some 33) (v := undef) ?hi27 (by kernel_rfl) (by kernel_rfl) (by kernel_rfl) ?hQ27 ?hN27 (Or.inr ⟨?hw27, rfl⟩) (by assumption) ?rest27
    case hi27 => simp only [List.getElem?_toArray, List.getElem?_cons_zero, List.getElem?_cons_succ]; rfl
    case hQ27 => exact fun _ _ _ h => h
    case hN27 => rfl
    case hw27 => rfl
    simp only [Act.put, List.setIfInBounds_toArray, List.set_cons_zero, List.set_cons_succ]
    refine take_ (oi := ?oi28) (i := 27) (N := some 34) (v := ?v28) ?hi28 (by kernel_rfl) (by kernel_rfl) (by kernel_rfl) ?hQ28 ?hN28 (Or.inl ⟨?hw28, ?hy28⟩) (by assumption) ?rest28
    case hi28 => simp only [List.getElem?_toArray, List.getElem?_cons_zero, List.getElem?_cons_succ]; rfl
    case hQ28 => exact fun _ _ _ h => h
    case hN28 => rfl
    case hw28 => rfl
    case hy28 => intro W hSw; (try dsimp only at hSw); go_split_ands; go_simp; (try with_reducible rfl)
    simp only [Act.put, List.setIfInBounds_toArray, List.set_cons_zero, List.set_cons_succ]
    refine take_ (oi := ?oi29) (i := 28) (N := some 35) (v := ?v29) ?hi29 (by kernel_rfl) (by kernel_rfl) (by kernel_rfl) ?hQ29 ?hN29 (Or.inl ⟨?hw29, ?hy29⟩) (by assumption) ?rest29
    case hi29 => simp only [List.getElem?_toArray, List.getElem?_cons_zero, List.getElem?_cons_succ]; rfl
    case hQ29 => exact fun _ _ _ h => h
    case hN29 => rfl
    case hw29 => rfl
    case hy29 => intro W hSw; (try dsimp only at hSw); go_split_ands; go_simp; (try with_reducible rfl)
    simp only [Act.put, List.setIfInBounds_toArray, List.set_cons_zero, List.set_cons_succ]
    refine take_ (oi := ?oi30) (i := 29) (N := some 36) (v := undef) ?hi30 (by kernel_rfl) (by kernel_rfl) (by kernel_rfl) ?hQ30 ?hN30 (Or.inr ⟨?hw30, rfl⟩) (by assumption) ?rest30
    case hi30 => simp only [List.getElem?_toArray, List.getElem?_cons_zero, List.getElem?_cons_succ]; rfl
    case hQ30 => exact fun _ _ _ h => h
    case hN30 => rfl
    case hw30 => rfl
    simp only [Act.put, List.setIfInBounds_toArray, List.set_cons_zero, List.set_cons_succ]
    refine take_ (oi := ?oi31) (i := 30) (N := some 37) (v := undef) ?hi31 (by kernel_rfl) (by kernel_rfl) (by kernel_rfl) ?hQ31 ?hN31 (Or.inr ⟨?hw31, rfl⟩) (by assumption) ?rest31
    case hi31 => simp only [List.getElem?_toArray, List.getElem?_cons_zero, List.getElem?_cons_succ]; rfl
    case hQ31 => exact fun _ _ _ h => h
    case hN31 => rfl
    case hw31 => rfl
    simp only [Act.put, List.setIfInBounds_toArray, List.set_cons_zero, List.set_cons_succ]
    refine take_ (oi := ?oi32) (i := 31) (N := some 38) (v := undef) ?hi32 (by kernel_rfl) (by kernel_rfl) (by kernel_rfl) ?hQ32 ?hN32 (Or.inr ⟨?hw32, rfl⟩) (by assumption) ?rest32
    case hi32 => simp only [List.getElem?_toArray, List.getElem?_cons_zero, List.getElem?_cons_succ]; rfl
    case hQ32 => exact fun _ _ _ h => h
    case hN32 => rfl
    case hw32 => rfl
    simp only [Act.put, List.setIfInBounds_toArray, List.set_cons_zero, List.set_cons_succ]
    refine take_ (oi := ?oi33) (i := 32) (N := some 39) (v := undef) ?hi33 (by kernel_rfl) (by kernel_rfl) (by kernel_rfl) ?hQ33 ?hN33 (Or.inr ⟨?hw33, rfl⟩) (by assumption) ?rest33
    case hi33 => simp only [List.getElem?_toArray, List.getElem?_cons_zero, List.getElem?_cons_succ]; rfl
    case hQ33 => exact fun _ _ _ h => h
    case hN33 => rfl
    case hw33 => rfl
    simp only [Act.put, List.setIfInBounds_toArray, List.set_cons_zero, List.set_cons_succ]
    refine take_ (oi := ?oi34) (i := 33) (N := some 40) (v := undef) ?hi34 (by kernel_rfl) (by kernel_rfl) (by kernel_rfl) ?hQ34 ?hN34 (Or.inr ⟨?hw34, rfl⟩) (by assumption) ?rest34
    case hi34 => simp only [List.getElem?_toArray, List.getElem?_cons_zero, List.getElem?_cons_succ]; rfl
    case hQ34 => exact fun _ _ _ h => h
    case hN34 => rfl
    case hw34 => rfl
    simp only [Act.put, List.setIfInBounds_toArray, List.set_cons_zero, List.set_cons_succ]
    refine take_ (oi := ?oi35) (i := 34) (N := some 41) (v := undef) ?hi35 (by kernel_rfl) (by kernel_rfl) (by kernel_rfl) ?hQ35 ?hN35 (Or.inr ⟨?hw35, rfl⟩) (by assumption) ?rest35
    case hi35 => simp only [List.getElem?_toArray, List.getElem?_cons_zero, List.getElem?_cons_succ]; rfl
    case hQ35 => exact fun _ _ _ h => h
    case hN35 => rfl
    case hw35 => rfl
    simp only [Act.put, List.setIfInBounds_toArray, List.set_cons_zero, List.set_cons_succ]
    refine take_ (oi := ?oi36) (i := 35) (N := some 42) (v := undef) ?hi36 (by kernel_rfl) (by kernel_rfl) (by kernel_rfl) ?hQ36 ?hN36 (Or.inr ⟨?hw36, rfl⟩) (by assumption) ?rest36
    case hi36 => simp only [List.getElem?_toArray, List.getElem?_cons_zero, List.getElem?_cons_succ]; rfl
    case hQ36 => exact fun _ _ _ h => h
    case hN36 => rfl
    case hw36 => rfl
    simp only [Act.put, List.setIfInBounds_toArray, List.set_cons_zero, List.set_cons_succ]
    refine take_ (oi := ?oi37) (i := 36) (N := some 43) (v := undef) ?hi37 (by kernel_rfl) (by kernel_rfl) (by kernel_rfl) ?hQ37 ?hN37 (Or.inr ⟨?hw37, rfl⟩) (by assumption) ?rest37
    case hi37 => simp only [List.getElem?_toArray, List.getElem?_cons_zero, List.getElem?_cons_succ]; rfl
    case hQ37 => exact fun _ _ _ h => h
    case hN37 => rfl
    case hw37 => rfl
    simp only [Act.put, List.setIfInBounds_toArray, List.set_cons_zero, List.set_cons_succ]
    refine take_ (oi := ?oi38) (i := 37) (N := some 44) (v := ?v38) ?hi38 (by kernel_rfl) (by kernel_rfl) (by kernel_rfl) ?hQ38 ?hN38 (Or.inl ⟨?hw38, ?hy38⟩) (by assumption) ?rest38
    case hi38 => simp only [List.getElem?_toArray, List.getElem?_cons_zero, List.getElem?_cons_succ]; rfl
    case hQ38 => exact fun _ _ _ h => h
    case hN38 => rfl
    case hw38 => rfl
    case hy38 => intro W hSw; (try dsimp only at hSw); go_split_ands; go_simp; (try with_reducible rfl)
    simp only [Act.put, List.setIfInBounds_toArray, List.set_cons_zero, List.set_cons_succ]
    refine take_ (oi := ?oi39) (i := 38) (N := some 6) (v := ?v39) ?hi39 (by kernel_rfl) (by kernel_rfl) (by kernel_rfl) ?hQ39 ?hN39 (Or.inl ⟨?hw39, ?hy39⟩) (by assumption) ?rest39
    case hi39 => simp only [List.getElem?_toArray, List.getElem?_cons_zero, List.getElem?_cons_succ]; rfl
    case hQ39 => exact fun _ _ _ h => h
    case hN39 => rfl
    case hw39 => rfl
    case hy39 => intro W hSw; (try dsimp only at hSw); go_split_ands; go_simp; (try with_reducible rfl)
    simp only [Act.put, List.setIfInBounds_toArray, List.set_cons_zero, List.set_cons_succ]
    refine wpAnyH_done (by kernel_rfl) ?_ _
    refine NoPanic.normal ?_
    go_wp2
    go_ret
    go_split_ands
    exact ⟨rfl, by assumption⟩
  case true =>
    cases k2
    case false =>
      go_enter Tryz.func46, Tryz.ntmps46
      go_wp2
      refine wp_region_noPanic ?_
      refine wp_region_held_drew (S := fun W => W.cell? ⟨w.heap.size, 1, none⟩ = some (.float .f64 a0) ∧ W.cell? ⟨w.heap.size, 2, none⟩ = some (.float .f64 a1) ∧ W.cell? ⟨w.heap.size + 1, 1, none⟩ = some (.float .f64 b0) ∧ W.cell? ⟨w.heap.size + 1, 2, none⟩ = some (.float .f64 b1) ∧ W.cell? ⟨w.heap.size + 1 + 1, 1, none⟩ = some (.float .f64 c0) ∧ W.cell? ⟨w.heap.size + 1 + 1, 2, none⟩ = some (.float .f64 c1) ∧ Below w.heap.size w W) (by kernel_rfl) ?_ (fun hHeld => ?_)
      · (first | (go_split_ands; refine ⟨?_, ?_, ?_, ?_, ?_, ?_, ?_⟩ <;> assumption) | (go_split_ands; exact ⟨pw_cell_below hb (by assumption), pw_cell_below hb (by assumption), pw_cell_below hb (by assumption), pw_cell_below hb (by assumption), pw_cell_below hb (by assumption), pw_cell_below hb (by assumption), below_step (by assumption) hb⟩) | (refine ⟨?_, ?_, ?_, ?_, ?_, ?_, ?_⟩; (iterate 6 (focus (first | assumption | (simp [go_sem]; done) | (simp [go_sem, *]; done)))); repeat (first | (with_reducible exact Below.refl _ _) | (with_reducible apply below_drew) | (with_reducible apply below_alloc))))
      refine take_ (oi := ?oi40) (i := 0) (N := some 7) (v := ?v40) ?hi40 (by kernel_rfl) (by kernel_rfl) (by kernel_rfl) ?hQ40 ?hN40 (Or.inl ⟨?hw40, ?hy40⟩) (by assumption) ?rest40
      case hi40 => simp only [List.getElem?_toArray, List.getElem?_cons_zero, List.getElem?_cons_succ]; rfl
      case hQ40 => exact fun _ _ _ h => h
      case hN40 => rfl
      case hw40 => rfl
      case hy40 => intro W hSw; (try dsimp only at hSw); go_split_ands; go_simp; (try with_reducible rfl)
      simp only [Act.put, List.setIfInBounds_toArray, List.set_cons_zero, List.set_cons_succ]
      refine take_ (oi := ?oi41) (i := 1) (N := some 8) (v := ?v41) ?hi41 (by kernel_rfl) (by kernel_rfl) (by kernel_rfl) ?hQ41 ?hN41 (Or.inl ⟨?hw41, ?hy41⟩) (by assumption) ?rest41
      case hi41 => simp only [List.getElem?_toArray, List.getElem?_cons_zero, List.getElem?_cons_succ]; rfl
      case hQ41 => exact fun _ _ _ h => h
      case hN41 => rfl
      case hw41 => rfl
      case hy41 => intro W hSw; (try dsimp only at hSw); go_split_ands; go_simp; (try with_reducible rfl)
      simp only [Act.put, List.setIfInBounds_toArray, List.set_cons_zero, List.set_cons_succ]
      refine take_ (oi := ?oi42) (i := 2) (N := some 9) (v := ?v42) ?hi42 (by kernel_rfl) (by kernel_rfl) (by kernel_rfl) ?hQ42 ?hN42 (Or.inl ⟨?hw42, ?hy42⟩) (by assumption) ?rest42
      case hi42 => simp only [List.getElem?_toArray, List.getElem?_cons_zero, List.getElem?_cons_succ]; rfl
      case hQ42 => exact fun _ _ _ h => h
      case hN42 => rfl
      case hw42 => rfl
      case hy42 => intro W hSw; (try dsimp only at hSw); go_split_ands; go_simp; (try with_reducible rfl)
      simp only [Act.put, List.setIfInBounds_toArray, List.set_cons_zero, List.set_cons_succ]
      refine take_ (oi := ?oi43) (i := 3) (N := some 10) (v := ?v43) ?hi43 (by kernel_rfl) (by kernel_rfl) (by kernel_rfl) ?hQ43 ?hN43 (Or.inl ⟨?hw43, ?hy43⟩) (by assumption) ?rest43
      case hi43 => simp only [List.getElem?_toArray, List.getElem?_cons_zero, List.getElem?_cons_succ]; rfl
      case hQ43 => exact fun _ _ _ h => h
      case hN43 => rfl
      case hw43 => rfl
      case hy43 => intro W hSw; (try dsimp only at hSw); go_split_ands; go_simp; (try with_reducible rfl)
      simp only [Act.put, List.setIfInBounds_toArray, List.set_cons_zero, List.set_cons_succ]
      refine take_ (oi := ?oi44) (i := 4) (N := some 11) (v := ?v44) ?hi44 (by kernel_rfl) (by kernel_rfl) (by kernel_rfl) ?hQ44 ?hN44 (Or.inl ⟨?hw44, ?hy44⟩) (by assumption) ?rest44
      case hi44 => simp only [List.getElem?_toArray, List.getElem?_cons_zero, List.getElem?_cons_succ]; rfl
      case hQ44 => exact fun _ _ _ h => h
      case hN44 => rfl
      case hw44 => rfl
      case hy44 => intro W hSw; (try dsimp only at hSw); go_split_ands; go_simp; (try with_reducible rfl)
      simp only [Act.put, List.setIfInBounds_toArray, List.set_cons_zero, List.set_cons_succ]
      refine take_ (oi := ?oi45) (i := 5) (N := some 12) (v := ?v45) ?hi45 (by kernel_rfl) (by kernel_rfl) (by kernel_rfl) ?hQ45 ?hN45 (Or.inl ⟨?hw45, ?hy45⟩) (by assumption) ?rest45
      case hi45 => simp only [List.getElem?_toArray, List.getElem?_cons_zero, List.getElem?_cons_succ]; rfl
      case hQ45 => exact fun _ _ _ h => h
      case hN45 => rfl
      case hw45 => rfl
      case hy45 => intro W hSw; (try dsimp only at hSw); go_split_ands; go_simp; (try with_reducible rfl)
      simp only [Act.put, List.setIfInBounds_toArray, List.set_cons_zero, List.set_cons_succ]
      refine wpAnyH_ready (rs := [6]) (by kernel_rfl) (by simp) ?_
      refine AllReadyH.cons (o := ?oi46) ?hi46 (fun K hK => ?step46) AllReadyH.nil
      case hi46 => simp only [List.getElem?_toArray, List.getElem?_cons_zero, List.getElem?_cons_succ]; rfl
      refine goes_ (N := some 13) Tryz.func50 (by kernel_rfl) rfl #[.float .f64 a0, .float .f64 b0] (by rfl) rfl rfl (by (try simp only [List.map_toArray, List.map_cons, List.map_nil]); rfl) ?_
      refine (M1.out _).mono ?_
      rintro e v6 ⟨rfl, hb⟩
      refine ⟨_, rfl, ?_⟩
      refine hK.out _ _ ?_ (fun hHeld => ?_)
      · (first | (go_split_ands; refine ⟨?_, ?_, ?_, ?_, ?_, ?_, ?_⟩ <;> assumption) | (go_split_ands; exact ⟨pw_cell_below hb (by assumption), pw_cell_below hb (by assumption), pw_cell_below hb (by assumption), pw_cell_below hb (by assumption), pw_cell_below hb (by assumption), pw_cell_below hb (by assumption), below_step (by assumption) hb⟩) | (refine ⟨?_, ?_, ?_, ?_, ?_, ?_, ?_⟩; (iterate 6 (focus (first | assumption | (simp [go_sem]; done) | (simp [go_sem, *]; done)))); repeat (first | (with_reducible exact Below.refl _ _) | (with_reducible apply below_drew) | (with_reducible apply below_alloc))))
      clear hK K
      simp only [Act.put, List.setIfInBounds_toArray, List.set_cons_zero, List.set_cons_succ]
      refine take_ (oi := ?oi47) (i := 7) (N := some 14) (v := ?v47) ?hi47 (by kernel_rfl) (by kernel_rfl) (by kernel_rfl) ?hQ47 ?hN47 (Or.inl ⟨?hw47, ?hy47⟩) (by assumption) ?rest47
      case hi47 => simp only [List.getElem?_toArray, List.getElem?_cons_zero, List.getElem?_cons_succ]; rfl
      case hQ47 => exact fun _ _ _ h => h
      case hN47 => rfl
      case hw47 => rfl
      case hy47 => intro W hSw; (try dsimp only at hSw); go_split_ands; go_simp; (try with_reducible rfl)
      simp only [Act.put, List.setIfInBounds_toArray, List.set_cons_zero, List.set_cons_succ]
      refine take_ (oi := ?oi48) (i := 8) (N := some 15) (v := ?v48) ?hi48 (by kernel_rfl) (by kernel_rfl) (by kernel_rfl) ?hQ48 ?hN48 (Or.inl ⟨?hw48, ?hy48⟩) (by assumption) ?rest48
      case hi48 => simp only [List.getElem?_toArray, List.getElem?_cons_zero, List.getElem?_cons_succ]; rfl
      case hQ48 => exact fun _ _ _ h => h
      case hN48 => rfl
      case hw48 => rfl
      case hy48 => intro W hSw; (try dsimp only at hSw); go_split_ands; go_simp; (try with_reducible rfl)
      simp only [Act.put, List.setIfInBounds_toArray, List.set_cons_zero, List.set_cons_succ]
      refine take_ (oi := ?oi49) (i := 9) (N := some 16) (v := ?v49) ?hi49 (by kernel_rfl) (by kernel_rfl) (by kernel_rfl) ?hQ49 ?hN49 (Or.inl ⟨?hw49, ?hy49⟩) (by assumption) ?rest49
      case hi49 => simp only [List.getElem?_toArray, List.getElem?_cons_zero, List.getElem?_cons_succ]; rfl
      case hQ49 => exact fun _ _ _ h => h
      case hN49 => rfl
      case hw49 => rfl
      case hy49 => intro W hSw; (try dsimp only at hSw); go_split_ands; go_simp; (try with_reducible rfl)
      simp only [Act.put, List.setIfInBounds_toArray, List.set_cons_zero, List.set_cons_succ]
      refine take_ (oi := ?oi50) (i := 10) (N := some 17) (v := ?v50) ?hi50 (by kernel_rfl) (by kernel_rfl) (by kernel_rfl) ?hQ50 ?hN50 (Or.inl ⟨?hw50, ?hy50⟩) (by assumption) ?rest50
      case hi50 => simp only [List.getElem?_toArray, List.getElem?_cons_zero, List.getElem?_cons_succ]; rfl
      case hQ50 => exact fun _ _ _ h => h
      case hN50 => rfl
      case hw50 => rfl
      case hy50 => intro W hSw; (try dsimp only at hSw); go_split_ands; go_simp; (try with_reducible rfl)
      simp only [Act.put, List.setIfInBounds_toArray, List.set_cons_zero, List.set_cons_succ]
      refine take_ (oi := ?oi51) (i := 11) (N := some 18) (v := ?v51) ?hi51 (by kernel_rfl) (by kernel_rfl) (by kernel_rfl) ?hQ51 ?hN51 (Or.inl ⟨?hw51, ?hy51⟩) (by assumption) ?rest51
      case hi51 => simp only [List.getElem?_toArray, List.getElem?_cons_zero, List.getElem?_cons_succ]; rfl
      case hQ51 => exact fun _ _ _ h => h
      case hN51 => rfl
      case hw51 => rfl
      case hy51 => intro W hSw; (try dsimp only at hSw); go_split_ands; go_simp; (try with_reducible rfl)
      simp only [Act.put, List.setIfInBounds_toArray, List.set_cons_zero, List.set_cons_succ]
      refine take_ (oi := ?oi52) (i := 12) (N := some 19) (v := ?v52) ?hi52 (by kernel_rfl) (by kernel_rfl) (by kernel_rfl) ?hQ52 ?hN52 (Or.inl ⟨?hw52, ?hy52⟩) (by assumption) ?rest52
      case hi52 => simp only [List.getElem?_toArray, List.getElem?_cons_zero, List.getElem?_cons_succ]; rfl
      case hQ52 => exact fun _ _ _ h => h
      case hN52 => rfl
      case hw52 => rfl
      case hy52 => intro W hSw; (try dsimp only at hSw); go_split_ands; go_simp; (try with_reducible rfl)
      simp only [Act.put, List.setIfInBounds_toArray, List.set_cons_zero, List.set_cons_succ]
      refine take_ (oi := ?oi53) (i := 13) (N := some 20) (v := ?v53) ?hi53 (by kernel_rfl) (by kernel_rfl) (by kernel_rfl) ?hQ53 ?hN53 (Or.inl ⟨?hw53, ?hy53⟩) (by assumption) ?rest53
      case hi53 => simp only [List.getElem?_toArray, List.getElem?_cons_zero, List.getElem?_cons_succ]; rfl
      case hQ53 => exact fun _ _ _ h => h
      case hN53 => rfl
      case hw53 => rfl
      case hy53 => intro W hSw; (try dsimp only at hSw); go_split_ands; go_simp; (try with_reducible rfl)
      simp only [Act.put, List.setIfInBounds_toArray, List.set_cons_zero, List.set_cons_succ]
      refine take_ (oi := ?oi54) (i := 14) (N := some 21) (v := ?v54) ?hi54 (by kernel_rfl) (by kernel_rfl) (by kernel_rfl) ?hQ54 ?hN54 (Or.inl ⟨?hw54, ?hy54⟩) (by assumption) ?rest54
      case hi54 => simp only [List.getElem?_toArray, List.getElem?_cons_zero, List.getElem?_cons_succ]; rfl
      case hQ54 => exact fun _ _ _ h => h
      case hN54 => rfl
      case hw54 => rfl
      case hy54 => intro W hSw; (try dsimp only at hSw); go_split_ands; go_simp; (try with_reducible rfl)
      simp only [Act.put, List.setIfInBounds_toArray, List.set_cons_zero, List.set_cons_succ]
      refine wpAnyH_ready (rs := [15]) (by kernel_rfl) (by simp) ?_
      refine AllReadyH.cons (o := ?oi55) ?hi55 (fun K hK => ?step55) AllReadyH.nil
      case hi55 => simp only [List.getElem?_toArray, List.getElem?_cons_zero, List.getElem?_cons_succ]; rfl
      refine goes_ (N := some 22) Tryz.func51 (by kernel_rfl) rfl #[.float .f64 a0, .float .f64 b0] (by rfl) rfl rfl (by (try simp only [List.map_toArray, List.map_cons, List.map_nil]); rfl) ?_
      refine (M2.out _).mono ?_
      rintro e v15 ⟨rfl, hb⟩
      refine ⟨_, rfl, ?_⟩
      refine hK.out _ _ ?_ (fun hHeld => ?_)
      · (first | (go_split_ands; refine ⟨?_, ?_, ?_, ?_, ?_, ?_, ?_⟩ <;> assumption) | (go_split_ands; exact ⟨pw_cell_below hb (by assumption), pw_cell_below hb (by assumption), pw_cell_below hb (by assumption), pw_cell_below hb (by assumption), pw_cell_below hb (by assumption), pw_cell_below hb (by assumption), below_step (by assumption) hb⟩) | (refine ⟨?_, ?_, ?_, ?_, ?_, ?_, ?_⟩; (iterate 6 (focus (first | assumption | (simp [go_sem]; done) | (simp [go_sem, *]; done)))); repeat (first | (with_reducible exact Below.refl _ _) | (with_reducible apply below_drew) | (with_reducible apply below_alloc))))
      clear hK K
      simp only [Act.put, List.setIfInBounds_toArray, List.set_cons_zero, List.set_cons_succ]
      refine take_ (oi := ?oi56) (i := 16) (N := some 23) (v := ?v56) ?hi56 (by kernel_rfl) (by kernel_rfl) (by kernel_rfl) ?hQ56 ?hN56 (Or.inl ⟨?hw56, ?hy56⟩) (by assumption) ?rest56
      case hi56 => simp only [List.getElem?_toArray, List.getElem?_cons_zero, List.getElem?_cons_succ]; rfl
      case hQ56 => exact fun _ _ _ h => h
      case hN56 => rfl
      case hw56 => rfl
      case hy56 => intro W hSw; (try dsimp only at hSw); go_split_ands; go_simp; (try with_reducible rfl)
      simp only [Act.put, List.setIfInBounds_toArray, List.set_cons_zero, List.set_cons_succ]
      refine take_ (oi := ?oi57) (i := 17) (N := some 24) (v := ?v57) ?hi57 (by kernel_rfl) (by kernel_rfl) (by kernel_rfl) ?hQ57 ?hN57 (Or.inl ⟨?hw57, ?hy57⟩) (by assumption) ?rest57
      case hi57 => simp only [List.getElem?_toArray, List.getElem?_cons_zero, List.getElem?_cons_succ]; rfl
      case hQ57 => exact fun _ _ _ h => h
      case hN57 => rfl
      case hw57 => rfl
      case hy57 => intro W hSw; (try dsimp only at hSw); go_split_ands; go_simp; (try with_reducible rfl)
      simp only [Act.put, List.setIfInBounds_toArray, List.set_cons_zero, List.set_cons_succ]
      refine take_ (oi := ?oi58) (i := 18) (N := some 25) (v := ?v58) ?hi58 (by kernel_rfl) (by kernel_rfl) (by kernel_rfl) ?hQ58 ?hN58 (Or.inl ⟨?hw58, ?hy58⟩) (by assumption) ?rest58
      case hi58 => simp only [List.getElem?_toArray, List.getElem?_cons_zero, List.getElem?_cons_succ]; rfl
      case hQ58 => exact fun _ _ _ h => h
      case hN58 => rfl
      case hw58 => rfl
      case hy58 => intro W hSw; (try dsimp only at hSw); go_split_ands; go_simp; (try with_reducible rfl)
      simp only [Act.put, List.setIfInBounds_toArray, List.set_cons_zero, List.set_cons_succ]
      refine take_ (oi := ?oi59) (i := 19) (N := some 26) (v := undef) ?hi59 (by kernel_rfl) (by kernel_rfl) (by kernel_rfl) ?hQ59 ?hN59 (Or.inr ⟨?hw59, rfl⟩) (by assumption) ?rest59
      case hi59 => simp only [List.getElem?_toArray, List.getElem?_cons_zero, List.getElem?_cons_succ]; rfl
      case hQ59 => exact fun _ _ _ h => h
      case hN59 => rfl
      case hw59 => rfl
      simp only [Act.put, List.setIfInBounds_toArray, List.set_cons_zero, List.set_cons_succ]
      refine take_ (oi := ?oi60) (i := 20) (N := some 27) (v := undef) ?hi60 (by kernel_rfl) (by kernel_rfl) (by kernel_rfl) ?hQ60 ?hN60 (Or.inr ⟨?hw60, rfl⟩) (by assumption) ?rest60
      case hi60 => simp only [List.getElem?_toArray, List.getElem?_cons_zero, List.getElem?_cons_succ]; rfl
      case hQ60 => exact fun _ _ _ h => h
      case hN60 => rfl
      case hw60 => rfl
      simp only [Act.put, List.setIfInBounds_toArray, List.set_cons_zero, List.set_cons_succ]
      refine take_ (oi := ?oi61) (i := 21) (N := some 28) (v := undef) ?hi61 (by kernel_rfl) (by kernel_rfl) (by kernel_rfl) ?hQ61 ?hN61 (Or.inr ⟨?hw61, rfl⟩) (by assumption) ?rest61
      case hi61 => simp only [List.getElem?_toArray, List.getElem?_cons_zero, List.getElem?_cons_succ]; rfl
      case hQ61 => exact fun _ _ _ h => h
      case hN61 => rfl
      case hw61 => rfl
      simp only [Act.put, List.setIfInBounds_toArray, List.set_cons_zero, List.set_cons_succ]
      refine take_ (oi := ?oi62) (i := 22) (N := some 29) (v := undef) ?hi62 (by kernel_rfl) (by kernel_rfl) (by kernel_rfl) ?hQ62 ?hN62 (Or.inr ⟨?hw62, rfl⟩) (by assumption) ?rest62
      case hi62 => simp only [List.getElem?_toArray, List.getElem?_cons_zero, List.getElem?_cons_succ]; rfl
      case hQ62 => exact fun _ _ _ h => h
      case hN62 => rfl
      case hw62 => rfl
      simp only [Act.put, List.setIfInBounds_toArray, List.set_cons_zero, List.set_cons_succ]
      refine take_ (oi := ?oi63) (i := 23) (N := some 30) (v := undef) ?hi63 (by kernel_rfl) (by kernel_rfl) (by kernel_rfl) ?hQ63 ?hN63 (Or.inr ⟨?hw63, rfl⟩) (by assumption) ?rest63
      case hi63 => simp only [List.getElem?_toArray, List.getElem?_cons_zero, List.getElem?_cons_succ]; rfl
      case hQ63 => exact fun _ _ _ h => h
      case hN63 => rfl
      case hw63 => rfl
      simp only [Act.put, List.setIfInBounds_toArray, List.set_cons_zero, List.set_cons_succ]
      refine take_ (oi := ?oi64) (i := 24) (N := some 31) (v := undef) ?hi64 (by kernel_rfl) (by kernel_rfl) (by kernel_rfl) ?hQ64 ?hN64 (Or.inr ⟨?hw64, rfl⟩) (by assumption) ?rest64
      case hi64 => simp only [List.getElem?_toArray, List.getElem?_cons_zero, List.getElem?_cons_succ]; rfl
      case hQ64 => exact fun _ _ _ h => h
      case hN64 => rfl
      case hw64 => rfl
      simp only [Act.put, List.setIfInBounds_toArray, List.set_cons_zero, List.set_cons_succ]
      refine take_ (oi := ?oi65) (i := 25) (N := some 32) (v := undef) ?hi65 (by kernel_rfl) (by kernel_rfl) (by kernel_rfl) ?hQ65 ?hN65 (Or.inr ⟨?hw65, rfl⟩) (by assumption) ?rest65
      case hi65 => simp only [List.getElem?_toArray, List.getElem?_cons_zero, List.getElem?_cons_succ]; rfl
      case hQ65 => exact fun _ _ _ h => h
      case hN65 => rfl
      case hw65 => rfl
      simp only [Act.put, List.setIfInBounds_toArray, List.set_cons_zero, List.set_cons_succ]
      refine take_ (oi := ?oi66) (i := 26) (N := some 33) (v := undef) ?hi66 (by kernel_rfl) (by kernel_rfl) (by kernel_rfl) ?hQ66 ?hN66 (Or.inr ⟨?hw66, rfl⟩) (by assumption) ?rest66
      case hi66 => simp only [List.getElem?_toArray, List.getElem?_cons_zero, List.getElem?_cons_succ]; rfl
      case hQ66 => exact fun _ _ _ h => h
      case hN66 => rfl
      case hw66 => rfl
      simp only [Act.put, List.setIfInBounds_toArray, List.set_cons_zero, List.set_cons_succ]
      refine take_ (oi := ?oi67) (i := 27) (N := some 34) (v := ?v67) ?hi67 (by kernel_rfl) (by kernel_rfl) (by kernel_rfl) ?hQ67 ?hN67 (Or.inl ⟨?hw67, ?hy67⟩) (by assumption) ?rest67
      case hi67 => simp only [List.getElem?_toArray, List.getElem?_cons_zero, List.getElem?_cons_succ]; rfl
      case hQ67 => exact fun _ _ _ h => h
      case hN67 => rfl
      case hw67 => rfl
      case hy67 => intro W hSw; (try dsimp only at hSw); go_split_ands; go_simp; (try with_reducible rfl)
      simp only [Act.put, List.setIfInBounds_toArray, List.set_cons_zero, List.set_cons_succ]
      refine take_ (oi := ?oi68) (i := 28) (N := some 35) (v := ?v68) ?hi68 (by kernel_rfl) (by kernel_rfl) (by kernel_rfl) ?hQ68 ?hN68 (Or.inl ⟨?hw68, ?hy68⟩) (by assumption) ?rest68
      case hi68 => simp only [List.getElem?_toArray, List.getElem?_cons_zero, List.getElem?_cons_succ]; rfl
      case hQ68 => exact fun _ _ _ h => h
      case hN68 => rfl
      case hw68 => rfl
      case hy68 => intro W hSw; (try dsimp only at hSw); go_split_ands; go_simp; (try with_reducible rfl)
      simp only [Act.put, List.setIfInBounds_toArray, List.set_cons_zero, List.set_cons_succ]
      refine take_ (oi := ?oi69) (i := 29) (N := some 36) (v := undef) ?hi69 (by kernel_rfl) (by kernel_rfl) (by kernel_rfl) ?hQ69 ?hN69 (Or.inr ⟨?hw69, rfl⟩) (by assumption) ?rest69
      case hi69 => simp only [List.getElem?_toArray, List.getElem?_cons_zero, List.getElem?_cons_succ]; rfl
      case hQ69 => exact fun _ _ _ h => h
      case hN69 => rfl
      case hw69 => rfl
      simp only [Act.put, List.setIfInBounds_toArray, List.set_cons_zero, List.set_cons_succ]
      refine take_ (oi := ?oi70) (i := 30) (N := some 37) (v := undef) ?hi70 (by kernel_rfl) (by kernel_rfl) (by kernel_rfl) ?hQ70 ?hN70 (Or.inr ⟨?hw70, rfl⟩) (by assumption) ?rest70
      case hi70 => simp only [List.getElem?_toArray, List.getElem?_cons_zero, List.getElem?_cons_succ]; rfl
      case hQ70 => exact fun _ _ _ h => h
      case hN70 => rfl
      case hw70 => rfl
      simp only [Act.put, List.setIfInBounds_toArray, List.set_cons_zero, List.set_cons_succ]
      refine take_ (oi := ?oi71) (i := 31) (N := some 38) (v := undef) ?hi71 (by kernel_rfl) (by kernel_rfl) (by kernel_rfl) ?hQ71 ?hN71 (Or.inr ⟨?hw71, rfl⟩) (by assumption) ?rest71
      case hi71 => simp only [List.getElem?_toArray, List.getElem?_cons_zero, List.getElem?_cons_succ]; rfl
      case hQ71 => exact fun _ _ _ h => h
      case hN71 => rfl
      case hw71 => rfl
      simp only [Act.put, List.setIfInBounds_toArray, List.set_cons_zero, List.set_cons_succ]
      refine take_ (oi := ?oi72) (i := 32) (N := some 39) (v := undef) ?hi72 (by kernel_rfl) (by kernel_rfl) (by kernel_rfl) ?hQ72 ?hN72 (Or.inr ⟨?hw72, rfl⟩) (by assumption) ?rest72
      case hi72 => simp only [List.getElem?_toArray, List.getElem?_cons_zero, List.getElem?_cons_succ]; rfl
      case hQ72 => exact fun _ _ _ h => h
      case hN72 => rfl
      case hw72 => rfl
      simp only [Act.put, List.setIfInBounds_toArray, List.set_cons_zero, List.set_cons_succ]
      refine take_ (oi := ?oi73) (i := 33) (N := some 40) (v := undef) ?hi73 (by kernel_rfl) (by kernel_rfl) (by kernel_rfl) ?hQ73 ?hN73 (Or.inr ⟨?hw73, rfl⟩) (by assumption) ?rest73
      case hi73 => simp only [List.getElem?_toArray, List.getElem?_cons_zero, List.getElem?_cons_succ]; rfl
      case hQ73 => exact fun _ _ _ h => h
      case hN73 => rfl
      case hw73 => rfl
      simp only [Act.put, List.setIfInBounds_toArray, List.set_cons_zero, List.set_cons_succ]
      refine take_ (oi := ?oi74) (i := 34) (N := some 41) (v := undef) ?hi74 (by kernel_rfl) (by kernel_rfl) (by kernel_rfl) ?hQ74 ?hN74 (Or.inr ⟨?hw74, rfl⟩) (by assumption) ?rest74
      case hi74 => simp only [List.getElem?_toArray, List.getElem?_cons_zero, List.getElem?_cons_succ]; rfl
      case hQ74 => exact fun _ _ _ h => h
      case hN74 => rfl
      case hw74 => rfl
      simp only [Act.put, List.setIfInBounds_toArray, List.set_cons_zero, List.set_cons_succ]
      refine take_ (oi := ?oi75) (i := 35) (N := some 42) (v := undef) ?hi75 (by kernel_rfl) (by kernel_rfl) (by kernel_rfl) ?hQ75 ?hN75 (Or.inr ⟨?hw75, rfl⟩) (by assumption) ?rest75
      case hi75 => simp only [List.getElem?_toArray, List.getElem?_cons_zero, List.getElem?_cons_succ]; rfl
      case hQ75 => exact fun _ _ _ h => h
      case hN75 => rfl
      case hw75 => rfl
      simp only [Act.put, List.setIfInBounds_toArray, List.set_cons_zero, List.set_cons_succ]
      refine take_ (oi := ?oi76) (i := 36) (N := some 43) (v := undef) ?hi76 (by kernel_rfl) (by kernel_rfl) (by kernel_rfl) ?hQ76 ?hN76 (Or.inr ⟨?hw76, rfl⟩) (by assumption) ?rest76
      case hi76 => simp only [List.getElem?_toArray, List.getElem?_cons_zero, List.getElem?_cons_succ]; rfl
      case hQ76 => exact fun _ _ _ h => h
      case hN76 => rfl
      case hw76 => rfl
      simp only [Act.put, List.setIfInBounds_toArray, List.set_cons_zero, List.set_cons_succ]
      refine take_ (oi := ?oi77) (i := 37) (N := some 44) (v := ?v77) ?hi77 (by kernel_rfl) (by kernel_rfl) (by kernel_rfl) ?hQ77 ?hN77 (Or.inl ⟨?hw77, ?hy77⟩) (by assumption) ?rest77
      case hi77 => simp only [List.getElem?_toArray, List.getElem?_cons_zero, List.getElem?_cons_succ]; rfl
      case hQ77 => exact fun _ _ _ h => h
      case hN77 => rfl
      case hw77 => rfl
      case hy77 => intro W hSw; (try dsimp only at hSw); go_split_ands; go_simp; (try with_reducible rfl)
      simp only [Act.put, List.setIfInBounds_toArray, List.set_cons_zero, List.set_cons_succ]
      refine take_ (oi := ?oi78) (i := 38) (N := some 6) (v := ?v78) ?hi78 (by kernel_rfl) (by kernel_rfl) (by kernel_rfl) ?hQ78 ?hN78 (Or.inl ⟨?hw78, ?hy78⟩) (by assumption) ?rest78
      case hi78 => simp only [List.getElem?_toArray, List.getElem?_cons_zero, List.getElem?_cons_succ]; rfl
      case hQ78 => exact fun _ _ _ h => h
      case hN78 => rfl
      case hw78 => rfl
      case hy78 => intro W hSw; (try dsimp only at hSw); go_split_ands; go_simp; (try with_reducible rfl)
      simp only [Act.put, List.setIfInBounds_toArray, List.set_cons_zero, List.set_cons_succ]
      refine wpAnyH_done (by kernel_rfl) ?_ _
      refine NoPanic.normal ?_
      go_wp2
      go_ret
      go_split_ands
      exact ⟨rfl, by assumption⟩
    case true =>
      cases k3
      case false =>
        go_enter Tryz.func46, Tryz.ntmps46
        go_wp2
        refine wp_region_noPanic ?_
        refine wp_region_held_drew (S := fun W => W.cell? ⟨w.heap.size, 1, none⟩ = some (.float .f64 a0) ∧ W.cell? ⟨w.heap.size, 2, none⟩ = some (.float .f64 a1) ∧ W.cell? ⟨w.heap.size + 1, 1, none⟩ = some (.float .f64 b0) ∧ W.cell? ⟨w.heap.size + 1, 2, none⟩ = some (.float .f64 b1) ∧ W.cell? ⟨w.heap.size + 1 + 1, 1, none⟩ = some (.float .f64 c0) ∧ W.cell? ⟨w.heap.size + 1 + 1, 2, none⟩ = some (.float .f64 c1) ∧ Below w.heap.size w W) (by kernel_rfl) ?_ (fun hHeld => ?_)
        · (first | (go_split_ands; refine ⟨?_, ?_, ?_, ?_, ?_, ?_, ?_⟩ <;> assumption) | (go_split_ands; exact ⟨pw_cell_below hb (by assumption), pw_cell_below hb (by assumption), pw_cell_below hb (by assumption), pw_cell_below hb (by assumption), pw_cell_below hb (by assumption), pw_cell_below hb (by assumption), below_step (by assumption) hb⟩) | (refine ⟨?_, ?_, ?_, ?_, ?_, ?_, ?_⟩; (iterate 6 (focus (first | assumption | (simp [go_sem]; done) | (simp [go_sem, *]; done)))); repeat (first | (with_reducible exact Below.refl _ _) | (with_reducible apply below_drew) | (with_reducible apply below_alloc))))
        refine take_ (oi := ?oi79) (i := 0) (N := some 7) (v := ?v79) ?hi79 (by kernel_rfl) (by kernel_rfl) (by kernel_rfl) ?hQ79 ?hN79 (Or.inl ⟨?hw79, ?hy79⟩) (by assumption) ?rest79
        case hi79 => simp only [List.getElem?_toArray, List.getElem?_cons_zero, List.getElem?_cons_succ]; rfl
        case hQ79 => exact fun _ _ _ h => h
        case hN79 => rfl
        case hw79 => rfl
        case hy79 => intro W hSw; (try dsimp only at hSw); go_split_ands; go_simp; (try with_reducible rfl)
        simp only [Act.put, List.setIfInBounds_toArray, List.set_cons_zero, List.set_cons_succ]
        refine take_ (oi := ?oi80) (i := 1) (N := some 8) (v := ?v80) ?hi80 (by kernel_rfl) (by kernel_rfl) (by kernel_rfl) ?hQ80 ?hN80 (Or.inl ⟨?hw80, ?hy80⟩) (by assumption) ?rest80
        case hi80 => simp only [List.getElem?_toArray, List.getElem?_cons_zero, List.getElem?_cons_succ]; rfl
        case hQ80 => exact fun _ _ _ h => h
        case hN80 => rfl
        case hw80 => rfl
        case hy80 => intro W hSw; (try dsimp only at hSw); go_split_ands; go_simp; (try with_reducible rfl)
        simp only [Act.put, List.setIfInBounds_toArray, List.set_cons_zero, List.set_cons_succ]
        refine take_ (oi := ?oi81) (i := 2) (N := some 9) (v := ?v81) ?hi81 (by kernel_rfl) (by kernel_rfl) (by kernel_rfl) ?hQ81 ?hN81 (Or.inl ⟨?hw81, ?hy81⟩) (by assumption) ?rest81
        case hi81 => simp only [List.getElem?_toArray, List.getElem?_cons_zero, List.getElem?_cons_succ]; rfl
        case hQ81 => exact fun _ _ _ h => h
        case hN81 => rfl
        case hw81 => rfl
        case hy81 => intro W hSw; (try dsimp only at hSw); go_split_ands; go_simp; (try with_reducible rfl)
        simp only [Act.put, List.setIfInBounds_toArray, List.set_cons_zero, List.set_cons_succ]
        refine take_ (oi := ?oi82) (i := 3) (N := some 10) (v := ?v82) ?hi82 (by kernel_rfl) (by kernel_rfl) (by kernel_rfl) ?hQ82 ?hN82 (Or.inl ⟨?hw82, ?hy82⟩) (by assumption) ?rest82
        case hi82 => simp only [List.getElem?_toArray, List.getElem?_cons_zero, List.getElem?_cons_succ]; rfl
        case hQ82 => exact fun _ _ _ h => h
        case hN82 => rfl
        case hw82 => rfl
        case hy82 => intro W hSw; (try dsimp only at hSw); go_split_ands; go_simp; (try with_reducible rfl)
        simp only [Act.put, List.setIfInBounds_toArray, List.set_cons_zero, List.set_cons_succ]
        refine take_ (oi := ?oi83) (i := 4) (N := some 11) (v := ?v83) ?hi83 (by kernel_rfl) (by kernel_rfl) (by kernel_rfl) ?hQ83 ?hN83 (Or.inl ⟨?hw83, ?hy83⟩) (by assumption) ?rest83
        case hi83 => simp only [List.getElem?_toArray, List.getElem?_cons_zero, List.getElem?_cons_succ]; rfl
        case hQ83 => exact fun _ _ _ h => h
        case hN83 => rfl
        case hw83 => rfl
        case hy83 => intro W hSw; (try dsimp only at hSw); go_split_ands; go_simp; (try with_reducible rfl)
        simp only [Act.put, List.setIfInBounds_toArray, List.set_cons_zero, List.set_cons_succ]
        refine take_ (oi := ?oi84) (i := 5) (N := some 12) (v := ?v84) ?hi84 (by kernel_rfl) (by kernel_rfl) (by kernel_rfl) ?hQ84 ?hN84 (Or.inl ⟨?hw84, ?hy84⟩) (by assumption) ?rest84
        case hi84 => simp only [List.getElem?_toArray, List.getElem?_cons_zero, List.getElem?_cons_succ]; rfl
        case hQ84 => exact fun _ _ _ h => h
        case hN84 => rfl
        case hw84 => rfl
        case hy84 => intro W hSw; (try dsimp only at hSw); go_split_ands; go_simp; (try with_reducible rfl)
        simp only [Act.put, List.setIfInBounds_toArray, List.set_cons_zero, List.set_cons_succ]
        refine wpAnyH_ready (rs := [6]) (by kernel_rfl) (by simp) ?_
        refine AllReadyH.cons (o := ?oi85) ?hi85 (fun K hK => ?step85) AllReadyH.nil
        case hi85 => simp only [List.getElem?_toArray, List.getElem?_cons_zero, List.getElem?_cons_succ]; rfl
        refine goes_ (N := some 13) Tryz.func50 (by kernel_rfl) rfl #[.float .f64 a0, .float .f64 b0] (by rfl) rfl rfl (by (try simp only [List.map_toArray, List.map_cons, List.map_nil]); rfl) ?_
        refine (M1.out _).mono ?_
        rintro e v6 ⟨rfl, hb⟩
        refine ⟨_, rfl, ?_⟩
        refine hK.out _ _ ?_ (fun hHeld => ?_)
        · (first | (go_split_ands; refine ⟨?_, ?_, ?_, ?_, ?_, ?_, ?_⟩ <;> assumption) | (go_split_ands; exact ⟨pw_cell_below hb (by assumption), pw_cell_below hb (by assumption), pw_cell_below hb (by assumption), pw_cell_below hb (by assumption), pw_cell_below hb (by assumption), pw_cell_below hb (by assumption), below_step (by assumption) hb⟩) | (refine ⟨?_, ?_, ?_, ?_, ?_, ?_, ?_⟩; (iterate 6 (focus (first | assumption | (simp [go_sem]; done) | (simp [go_sem, *]; done)))); repeat (first | (with_reducible exact Below.refl _ _) | (with_reducible apply below_drew) | (with_reducible apply below_alloc))))
        clear hK K
        simp only [Act.put, List.setIfInBounds_toArray, List.set_cons_zero, List.set_cons_succ]
        refine take_ (oi := ?oi86) (i := 7) (N := some 14) (v := ?v86) ?hi86 (by kernel_rfl) (by kernel_rfl) (by kernel_rfl) ?hQ86 ?hN86 (Or.inl ⟨?hw86, ?hy86⟩) (by assumption) ?rest86
        case hi86 => simp only [List.getElem?_toArray, List.getElem?_cons_zero, List.getElem?_cons_succ]; rfl
        case hQ86 => exact fun _ _ _ h => h
        case hN86 => rfl
        case hw86 => rfl
        case hy86 => intro W hSw; (try dsimp only at hSw); go_split_ands; go_simp; (try with_reducible rfl)
        simp only [Act.put, List.setIfInBounds_toArray, List.set_cons_zero, List.set_cons_succ]
        refine take_ (oi := ?oi87) (i := 8) (N := some 15) (v := ?v87) ?hi87 (by kernel_rfl) (by kernel_rfl) (by kernel_rfl) ?hQ87 ?hN87 (Or.inl ⟨?hw87, ?hy87⟩) (by assumption) ?rest87
        case hi87 => simp only [List.getElem?_toArray, List.getElem?_cons_zero, List.getElem?_cons_succ]; rfl
        case hQ87 => exact fun _ _ _ h => h
        case hN87 => rfl
        case hw87 => rfl
        case hy87 => intro W hSw; (try dsimp only at hSw); go_split_ands; go_simp; (try with_reducible rfl)
        simp only [Act.put, List.setIfInBounds_toArray, List.set_cons_zero, List.set_cons_succ]
        refine take_ (oi := ?oi88) (i := 9) (N := some 16) (v := ?v88) ?hi88 (by kernel_rfl) (by kernel_rfl) (by kernel_rfl) ?hQ88 ?hN88 (Or.inl ⟨?hw88, ?hy88⟩) (by assumption) ?rest88
        case hi88 => simp only [List.getElem?_toArray, List.getElem?_cons_zero, List.getElem?_cons_succ]; rfl
        case hQ88 => exact fun _ _ _ h => h
        case hN88 => rfl
        case hw88 => rfl
        case hy88 => intro W hSw; (try dsimp only at hSw); go_split_ands; go_simp; (try with_reducible rfl)
        simp only [Act.put, List.setIfInBounds_toArray, List.set_cons_zero, List.set_cons_succ]
        refine take_ (oi := ?oi89) (i := 10) (N := some 17) (v := ?v89) ?hi89 (by kernel_rfl) (by kernel_rfl) (by kernel_rfl) ?hQ89 ?hN89 (Or.inl ⟨?hw89, ?hy89⟩) (by assumption) ?rest89
        case hi89 => simp only [List.getElem?_toArray, List.getElem?_cons_zero, List.getElem?_cons_succ]; rfl
        case hQ89 => exact fun _ _ _ h => h
        case hN89 => rfl
        case hw89 => rfl
        case hy89 => intro W hSw; (try dsimp only at hSw); go_split_ands; go_simp; (try with_reducible rfl)
        simp only [Act.put, List.setIfInBounds_toArray, List.set_cons_zero, List.set_cons_succ]
        refine take_ (oi := ?oi90) (i := 11) (N := some 18) (v := ?v90) ?hi90 (by kernel_rfl) (by kernel_rfl) (by kernel_rfl) ?hQ90 ?hN90 (Or.inl ⟨?hw90, ?hy90⟩) (by assumption) ?rest90
        case hi90 => simp only [List.getElem?_toArray, List.getElem?_cons_zero, List.getElem?_cons_succ]; rfl
        case hQ90 => exact fun _ _ _ h => h
        case hN90 => rfl
        case hw90 => rfl
        case hy90 => intro W hSw; (try dsimp only at hSw); go_split_ands; go_simp; (try with_reducible rfl)
        simp only [Act.put, List.setIfInBounds_toArray, List.set_cons_zero, List.set_cons_succ]
        refine take_ (oi := ?oi91) (i := 12) (N := some 19) (v := ?v91) ?hi91 (by kernel_rfl) (by kernel_rfl) (by kernel_rfl) ?hQ91 ?hN91 (Or.inl ⟨?hw91, ?hy91⟩) (by assumption) ?rest91
        case hi91 => simp only [List.getElem?_toArray, List.getElem?_cons_zero, List.getElem?_cons_succ]; rfl
        case hQ91 => exact fun _ _ _ h => h
        case hN91 => rfl
        case hw91 => rfl
        case hy91 => intro W hSw; (try dsimp only at hSw); go_split_ands; go_simp; (try with_reducible rfl)
        simp only [Act.put, List.setIfInBounds_toArray, List.set_cons_zero, List.set_cons_succ]
        refine take_ (oi := ?oi92) (i := 13) (N := some 20) (v := ?v92) ?hi92 (by kernel_rfl) (by kernel_rfl) (by kernel_rfl) ?hQ92 ?hN92 (Or.inl ⟨?hw92, ?hy92⟩) (by assumption) ?rest92
        case hi92 => simp only [List.getElem?_toArray, List.getElem?_cons_zero, List.getElem?_cons_succ]; rfl
        case hQ92 => exact fun _ _ _ h => h
        case hN92 => rfl
        case hw92 => rfl
        case hy92 => intro W hSw; (try dsimp only at hSw); go_split_ands; go_simp; (try with_reducible rfl)
        simp only [Act.put, List.setIfInBounds_toArray, List.set_cons_zero, List.set_cons_succ]
        refine take_ (oi := ?oi93) (i := 14) (N := some 21) (v := ?v93) ?hi93 (by kernel_rfl) (by kernel_rfl) (by kernel_rfl) ?hQ93 ?hN93 (Or.inl ⟨?hw93, ?hy93⟩) (by assumption) ?rest93
        case hi93 => simp only [List.getElem?_toArray, List.getElem?_cons_zero, List.getElem?_cons_succ]; rfl
        case hQ93 => exact fun _ _ _ h => h
        case hN93 => rfl
        case hw93 => rfl
        case hy93 => intro W hSw; (try dsimp only at hSw); go_split_ands; go_simp; (try with_reducible rfl)
        simp only [Act.put, List.setIfInBounds_toArray, List.set_cons_zero, List.set_cons_succ]
        refine wpAnyH_ready (rs := [15]) (by kernel_rfl) (by simp) ?_
        refine AllReadyH.cons (o := ?oi94) ?hi94 (fun K hK => ?step94) AllReadyH.nil
        case hi94 => simp only [List.getElem?_toArray, List.getElem?_cons_zero, List.getElem?_cons_succ]; rfl
        refine goes_ (N := some 22) Tryz.func51 (by kernel_rfl) rfl #[.float .f64 a0, .float .f64 b0] (by rfl) rfl rfl (by (try simp only [List.map_toArray, List.map_cons, List.map_nil]); rfl) ?_
        refine (M2.out _).mono ?_
        rintro e v15 ⟨rfl, hb⟩
        refine ⟨_, rfl, ?_⟩
        refine hK.out _ _ ?_ (fun hHeld => ?_)
        · (first | (go_split_ands; refine ⟨?_, ?_, ?_, ?_, ?_, ?_, ?_⟩ <;> assumption) | (go_split_ands; exact ⟨pw_cell_below hb (by assumption), pw_cell_below hb (by assumption), pw_cell_below hb (by assumption), pw_cell_below hb (by assumption), pw_cell_below hb (by assumption), pw_cell_below hb (by assumption), below_step (by assumption) hb⟩) | (refine ⟨?_, ?_, ?_, ?_, ?_, ?_, ?_⟩; (iterate 6 (focus (first | assumption | (simp [go_sem]; done) | (simp [go_sem, *]; done)))); repeat (first | (with_reducible exact Below.refl _ _) | (with_reducible apply below_drew) | (with_reducible apply below_alloc))))
        clear hK K
        simp only [Act.put, List.setIfInBounds_toArray, List.set_cons_zero, List.set_cons_succ]
        refine take_ (oi := ?oi95) (i := 16) (N := some 23) (v := ?v95) ?hi95 (by kernel_rfl) (by kernel_rfl) (by kernel_rfl) ?hQ95 ?hN95 (Or.inl ⟨?hw95, ?hy95⟩) (by assumption) ?rest95
        case hi95 => simp only [List.getElem?_toArray, List.getElem?_cons_zero, List.getElem?_cons_succ]; rfl
        case hQ95 => exact fun _ _ _ h => h
        case hN95 => rfl
        case hw95 => rfl
        case hy95 => intro W hSw; (try dsimp only at hSw); go_split_ands; go_simp; (try with_reducible rfl)
        simp only [Act.put, List.setIfInBounds_toArray, List.set_cons_zero, List.set_cons_succ]
        refine take_ (oi := ?oi96) (i := 17) (N := some 24) (v := ?v96) ?hi96 (by kernel_rfl) (by kernel_rfl) (by kernel_rfl) ?hQ96 ?hN96 (Or.inl ⟨?hw96, ?hy96⟩) (by assumption) ?rest96
        case hi96 => simp only [List.getElem?_toArray, List.getElem?_cons_zero, List.getElem?_cons_succ]; rfl
        case hQ96 => exact fun _ _ _ h => h
        case hN96 => rfl
        case hw96 => rfl
        case hy96 => intro W hSw; (try dsimp only at hSw); go_split_ands; go_simp; (try with_reducible rfl)
        simp only [Act.put, List.setIfInBounds_toArray, List.set_cons_zero, List.set_cons_succ]
        refine take_ (oi := ?oi97) (i := 18) (N := some 25) (v := ?v97) ?hi97 (by kernel_rfl) (by kernel_rfl) (by kernel_rfl) ?hQ97 ?hN97 (Or.inl ⟨?hw97, ?hy97⟩) (by assumption) ?rest97
        case hi97 => simp only [List.getElem?_toArray, List.getElem?_cons_zero, List.getElem?_cons_succ]; rfl
        case hQ97 => exact fun _ _ _ h => h
        case hN97 => rfl
        case hw97 => rfl
        case hy97 => intro W hSw; (try dsimp only at hSw); go_split_ands; go_simp; (try with_reducible rfl)
        simp only [Act.put, List.setIfInBounds_toArray, List.set_cons_zero, List.set_cons_succ]
        refine take_ (oi := ?oi98) (i := 19) (N := some 26) (v := ?v98) ?hi98 (by kernel_rfl) (by kernel_rfl) (by kernel_rfl) ?hQ98 ?hN98 (Or.inl ⟨?hw98, ?hy98⟩) (by assumption) ?rest98
        case hi98 => simp only [List.getElem?_toArray, List.getElem?_cons_zero, List.getElem?_cons_succ]; rfl
        case hQ98 => exact fun _ _ _ h => h
        case hN98 => rfl
        case hw98 => rfl
        case hy98 => intro W hSw; (try dsimp only at hSw); go_split_ands; go_simp; (try with_reducible rfl)
        simp only [Act.put, List.setIfInBounds_toArray, List.set_cons_zero, List.set_cons_succ]
        refine take_ (oi := ?oi99) (i := 20) (N := some 27) (v := ?v99) ?hi99 (by kernel_rfl) (by kernel_rfl) (by kernel_rfl) ?hQ99 ?hN99 (Or.inl ⟨?hw99, ?hy99⟩) (by assumption) ?rest99
        case hi99 => simp only [List.getElem?_toArray, List.getElem?_cons_zero, List.getElem?_cons_succ]; rfl
        case hQ99 => exact fun _ _ _ h => h
        case hN99 => rfl
        case hw99 => rfl
        case hy99 => intro W hSw; (try dsimp only at hSw); go_split_ands; go_simp; (try with_reducible rfl)
        simp only [Act.put, List.setIfInBounds_toArray, List.set_cons_zero, List.set_cons_succ]
        refine take_ (oi := ?oi100) (i := 21) (N := some 28) (v := ?v100) ?hi100 (by kernel_rfl) (by kernel_rfl) (by kernel_rfl) ?hQ100 ?hN100 (Or.inl ⟨?hw100, ?hy100⟩) (by assumption) ?rest100
        case hi100 => simp only [List.getElem?_toArray, List.getElem?_cons_zero, List.getElem?_cons_succ]; rfl
        case hQ100 => exact fun _ _ _ h => h
        case hN100 => rfl
        case hw100 => rfl
        case hy100 => intro W hSw; (try dsimp only at hSw); go_split_ands; go_simp; (try with_reducible rfl)
        simp only [Act.put, List.setIfInBounds_toArray, List.set_cons_zero, List.set_cons_succ]
        refine take_ (oi := ?oi101) (i := 22) (N := some 29) (v := ?v101) ?hi101 (by kernel_rfl) (by kernel_rfl) (by kernel_rfl) ?hQ101 ?hN101 (Or.inl ⟨?hw101, ?hy101⟩) (by assumption) ?rest101
        case hi101 => simp only [List.getElem?_toArray, List.getElem?_cons_zero, List.getElem?_cons_succ]; rfl
        case hQ101 => exact fun _ _ _ h => h
        case hN101 => rfl
        case hw101 => rfl
        case hy101 => intro W hSw; (try dsimp only at hSw); go_split_ands; go_simp; (try with_reducible rfl)
        simp only [Act.put, List.setIfInBounds_toArray, List.set_cons_zero, List.set_cons_succ]
        refine take_ (oi := ?oi102) (i := 23) (N := some 30) (v := ?v102) ?hi102 (by kernel_rfl) (by kernel_rfl) (by kernel_rfl) ?hQ102 ?hN102 (Or.inl ⟨?hw102, ?hy102⟩) (by assumption) ?rest102
        case hi102 => simp only [List.getElem?_toArray, List.getElem?_cons_zero, List.getElem?_cons_succ]; rfl
        case hQ102 => exact fun _ _ _ h => h
        case hN102 => rfl
        case hw102 => rfl
        case hy102 => intro W hSw; (try dsimp only at hSw); go_split_ands; go_simp; (try with_reducible rfl)
        simp only [Act.put, List.setIfInBounds_toArray, List.set_cons_zero, List.set_cons_succ]
        refine take_ (oi := ?oi103) (i := 24) (N := some 31) (v := ?v103) ?hi103 (by kernel_rfl) (by kernel_rfl) (by kernel_rfl) ?hQ103 ?hN103 (Or.inl ⟨?hw103, ?hy103⟩) (by assumption) ?rest103
        case hi103 => simp only [List.getElem?_toArray, List.getElem?_cons_zero, List.getElem?_cons_succ]; rfl
        case hQ103 => exact fun _ _ _ h => h
        case hN103 => rfl
        case hw103 => rfl
        case hy103 => intro W hSw; (try dsimp only at hSw); go_split_ands; go_simp; (try with_reducible rfl)
        simp only [Act.put, List.setIfInBounds_toArray, List.set_cons_zero, List.set_cons_succ]
        refine wpAnyH_ready (rs := [25]) (by kernel_rfl) (by simp) ?_
        refine AllReadyH.cons (o := ?oi104) ?hi104 (fun K hK => ?step104) AllReadyH.nil
        case hi104 => simp only [List.getElem?_toArray, List.getElem?_cons_zero, List.getElem?_cons_succ]; rfl
        refine goes_ (N := some 32) Tryz.func50 (by kernel_rfl) rfl #[.float .f64 a1, .float .f64 b1] (by rfl) rfl rfl (by (try simp only [List.map_toArray, List.map_cons, List.map_nil]); rfl) ?_
        refine (M3.out _).mono ?_
        rintro e v25 ⟨rfl, hb⟩
        refine ⟨_, rfl, ?_⟩
        refine hK.out _ _ ?_ (fun hHeld => ?_)
        · (first | (go_split_ands; refine ⟨?_, ?_, ?_, ?_, ?_, ?_, ?_⟩ <;> assumption) | (go_split_ands; exact ⟨pw_cell_below hb (by assumption), pw_cell_below hb (by assumption), pw_cell_below hb (by assumption), pw_cell_below hb (by assumption), pw_cell_below hb (by assumption), pw_cell_below hb (by assumption), below_step (by assumption) hb⟩) | (refine ⟨?_, ?_, ?_, ?_, ?_, ?_, ?_⟩; (iterate 6 (focus (first | assumption | (simp [go_sem]; done) | (simp [go_sem, *]; done)))); repeat (first | (with_reducible exact Below.refl _ _) | (with_reducible apply below_drew) | (with_reducible apply below_alloc))))
        clear hK K
        simp only [Act.put, List.setIfInBounds_toArray, List.set_cons_zero, List.set_cons_succ]
        refine take_ (oi := ?oi105) (i := 26) (N := some 33) (v := ?v105) ?hi105 (by kernel_rfl) (by kernel_rfl) (by kernel_rfl) ?hQ105 ?hN105 (Or.inl ⟨?hw105, ?hy105⟩) (by assumption) ?rest105
        case hi105 => simp only [List.getElem?_toArray, List.getElem?_cons_zero, List.getElem?_cons_succ]; rfl
        case hQ105 => exact fun _ _ _ h => h
        case hN105 => rfl
        case hw105 => rfl
        case hy105 => intro W hSw; (try dsimp only at hSw); go_split_ands; go_simp; (try with_reducible rfl)
        simp only [Act.put, List.setIfInBounds_toArray, List.set_cons_zero, List.set_cons_succ]
        refine take_ (oi := ?oi106) (i := 27) (N := some 34) (v := ?v106) ?hi106 (by kernel_rfl) (by kernel_rfl) (by kernel_rfl) ?hQ106 ?hN106 (Or.inl ⟨?hw106, ?hy106⟩) (by assumption) ?rest106
        case hi106 => simp only [List.getElem?_toArray, List.getElem?_cons_zero, List.getElem?_cons_succ]; rfl
        case hQ106 => exact fun _ _ _ h => h
        case hN106 => rfl
        case hw106 => rfl
        case hy106 => intro W hSw; (try dsimp only at hSw); go_split_ands; go_simp; (try with_reducible rfl)
        simp only [Act.put, List.setIfInBounds_toArray, List.set_cons_zero, List.set_cons_succ]
        refine take_ (oi := ?oi107) (i := 28) (N := some 35) (v := ?v107) ?hi107 (by kernel_rfl) (by kernel_rfl) (by kernel_rfl) ?hQ107 ?hN107 (Or.inl ⟨?hw107, ?hy107⟩) (by assumption) ?rest107
        case hi107 => simp only [List.getElem?_toArray, List.getElem?_cons_zero, List.getElem?_cons_succ]; rfl
        case hQ107 => exact fun _ _ _ h => h
        case hN107 => rfl
        case hw107 => rfl
        case hy107 => intro W hSw; (try dsimp only at hSw); go_split_ands; go_simp; (try with_reducible rfl)
        simp only [Act.put, List.setIfInBounds_toArray, List.set_cons_zero, List.set_cons_succ]
        refine take_ (oi := ?oi108) (i := 29) (N := some 36) (v := undef) ?hi108 (by kernel_rfl) (by kernel_rfl) (by kernel_rfl) ?hQ108 ?hN108 (Or.inr ⟨?hw108, rfl⟩) (by assumption) ?rest108
        case hi108 => simp only [List.getElem?_toArray, List.getElem?_cons_zero, List.getElem?_cons_succ]; rfl
        case hQ108 => exact fun _ _ _ h => h
        case hN108 => rfl
        case hw108 => rfl
        simp only [Act.put, List.setIfInBounds_toArray, List.set_cons_zero, List.set_cons_succ]
        refine take_ (oi := ?oi109) (i := 30) (N := some 37) (v := undef) ?hi109 (by kernel_rfl) (by kernel_rfl) (by kernel_rfl) ?hQ109 ?hN109 (Or.inr ⟨?hw109, rfl⟩) (by assumption) ?rest109
        case hi109 => simp only [List.getElem?_toArray, List.getElem?_cons_zero, List.getElem?_cons_succ]; rfl
        case hQ109 => exact fun _ _ _ h => h
        case hN109 => rfl
        case hw109 => rfl
        simp only [Act.put, List.setIfInBounds_toArray, List.set_cons_zero, List.set_cons_succ]
        refine take_ (oi := ?oi110) (i := 31) (N := some 38) (v := undef) ?hi110 (by kernel_rfl) (by kernel_rfl) (by kernel_rfl) ?hQ110 ?hN110 (Or.inr ⟨?hw110, rfl⟩) (by assumption) ?rest110
        case hi110 => simp only [List.getElem?_toArray, List.getElem?_cons_zero, List.getElem?_cons_succ]; rfl
        case hQ110 => exact fun _ _ _ h => h
        case hN110 => rfl
        case hw110 => rfl
        simp only [Act.put, List.setIfInBounds_toArray, List.set_cons_zero, List.set_cons_succ]
        refine take_ (oi := ?oi111) (i := 32) (N := some 39) (v := undef) ?hi111 (by kernel_rfl) (by kernel_rfl) (by kernel_rfl) ?hQ111 ?hN111 (Or.inr ⟨?hw111, rfl⟩) (by assumption) ?rest111
        case hi111 => simp only [List.getElem?_toArray, List.getElem?_cons_zero, List.getElem?_cons_succ]; rfl
        case hQ111 => exact fun _ _ _ h => h
        case hN111 => rfl
        case hw111 => rfl
        simp only [Act.put, List.setIfInBounds_toArray, List.set_cons_zero, List.set_cons_succ]
        refine take_ (oi := ?oi112) (i := 33) (N := some 40) (v := undef) ?hi112 (by kernel_rfl) (by kernel_rfl) (by kernel_rfl) ?hQ112 ?hN112 (Or.inr ⟨?hw112, rfl⟩) (by assumption) ?rest112
        case hi112 => simp only [List.getElem?_toArray, List.getElem?_cons_zero, List.getElem?_cons_succ]; rfl
        case hQ112 => exact fun _ _ _ h => h
        case hN112 => rfl
        case hw112 => rfl
        simp only [Act.put, List.setIfInBounds_toArray, List.set_cons_zero, List.set_cons_succ]
        refine take_ (oi := ?oi113) (i := 34) (N := some 41) (v := undef) ?hi113 (by kernel_rfl) (by kernel_rfl) (by kernel_rfl) ?hQ113 ?hN113 (Or.inr ⟨?hw113, rfl⟩) (by assumption) ?rest113
        case hi113 => simp only [List.getElem?_toArray, List.getElem?_cons_zero, List.getElem?_cons_succ]; rfl
        case hQ113 => exact fun _ _ _ h => h
        case hN113 => rfl
        case hw113 => rfl
        simp only [Act.put, List.setIfInBounds_toArray, List.set_cons_zero, List.set_cons_succ]
        refine take_ (oi := ?oi114) (i := 35) (N := some 42) (v := undef) ?hi114 (by kernel_rfl) (by kernel_rfl) (by kernel_rfl) ?hQ114 ?hN114 (Or.inr ⟨?hw114, rfl⟩) (by assumption) ?rest114
        case hi114 => simp only [List.getElem?_toArray, List.getElem?_cons_zero, List.getElem?_cons_succ]; rfl
        case hQ114 => exact fun _ _ _ h => h
        case hN114 => rfl
        case hw114 => rfl
        simp only [Act.put, List.setIfInBounds_toArray, List.set_cons_zero, List.set_cons_succ]
        refine take_ (oi := ?oi115) (i := 36) (N := some 43) (v := undef) ?hi115 (by kernel_rfl) (by kernel_rfl) (by kernel_rfl) ?hQ115 ?hN115 (Or.inr ⟨?hw115, rfl⟩) (by assumption) ?rest115
        case hi115 => simp only [List.getElem?_toArray, List.getElem?_cons_zero, List.getElem?_cons_succ]; rfl
        case hQ115 => exact fun _ _ _ h => h
        case hN115 => rfl
        case hw115 => rfl
        simp only [Act.put, List.setIfInBounds_toArray, List.set_cons_zero, List.set_cons_succ]
        refine take_ (oi := ?oi116) (i := 37) (N := some 44) (v := ?v116) ?hi116 (by kernel_rfl) (by kernel_rfl) (by kernel_rfl) ?hQ116 ?hN116 (Or.inl ⟨?hw116, ?hy116⟩) (by assumption) ?rest116
        case hi116 => simp only [List.getElem?_toArray, List.getElem?_cons_zero, List.getElem?_cons_succ]; rfl
        case hQ116 => exact fun _ _ _ h => h
        case hN116 => rfl
        case hw116 => rfl
        case hy116 => intro W hSw; (try dsimp only at hSw); go_split_ands; go_simp; (try with_reducible rfl)
        simp only [Act.put, List.setIfInBounds_toArray, List.set_cons_zero, List.set_cons_succ]
        refine take_ (oi := ?oi117) (i := 38) (N := some 6) (v := ?v117) ?hi117 (by kernel_rfl) (by kernel_rfl) (by kernel_rfl) ?hQ117 ?hN117 (Or.inl ⟨?hw117, ?hy117⟩) (by assumption) ?rest117
        case hi117 => simp only [List.getElem?_toArray, List.getElem?_cons_zero, List.getElem?_cons_succ]; rfl
        case hQ117 => exact fun _ _ _ h => h
        case hN117 => rfl
        case hw117 => rfl
        case hy117 => intro W hSw; (try dsimp only at hSw); go_split_ands; go_simp; (try with_reducible rfl)
        simp only [Act.put, List.setIfInBounds_toArray, List.set_cons_zero, List.set_cons_succ]
        refine wpAnyH_done (by kernel_rfl) ?_ _
        refine NoPanic.normal ?_
        go_wp2
        go_ret
        go_split_ands
        exact ⟨rfl, by assumption⟩
      case true =>
        go_enter Tryz.func46, Tryz.ntmps46
        go_wp2
        refine wp_region_noPanic ?_
        refine wp_region_held_drew (S := fun W => W.cell? ⟨w.heap.size, 1, none⟩ = some (.float .f64 a0) ∧ W.cell? ⟨w.heap.size, 2, none⟩ = some (.float .f64 a1) ∧ W.cell? ⟨w.heap.size + 1, 1, none⟩ = some (.float .f64 b0) ∧ W.cell? ⟨w.heap.size + 1, 2, none⟩ = some (.float .f64 b1) ∧ W.cell? ⟨w.heap.size + 1 + 1, 1, none⟩ = some (.float .f64 c0) ∧ W.cell? ⟨w.heap.size + 1 + 1, 2, none⟩ = some (.float .f64 c1) ∧ Below w.heap.size w W) (by kernel_rfl) ?_ (fun hHeld => ?_)
        · (first | (go_split_ands; refine ⟨?_, ?_, ?_, ?_, ?_, ?_, ?_⟩ <;> assumption) | (go_split_ands; exact ⟨pw_cell_below hb (by assumption), pw_cell_below hb (by assumption), pw_cell_below hb (by assumption), pw_cell_below hb (by assumption), pw_cell_below hb (by assumption), pw_cell_below hb (by assumption), below_step (by assumption) hb⟩) | (refine ⟨?_, ?_, ?_, ?_, ?_, ?_, ?_⟩; (iterate 6 (focus (first | assumption | (simp [go_sem]; done) | (simp [go_sem, *]; done)))); repeat (first | (with_reducible exact Below.refl _ _) | (with_reducible apply below_drew) | (with_reducible apply below_alloc))))
        refine take_ (oi := ?oi118) (i := 0) (N := some 7) (v := ?v118) ?hi118 (by kernel_rfl) (by kernel_rfl) (by kernel_rfl) ?hQ118 ?hN118 (Or.inl ⟨?hw118, ?hy118⟩) (by assumption) ?rest118
        case hi118 => simp only [List.getElem?_toArray, List.getElem?_cons_zero, List.getElem?_cons_succ]; rfl
        case hQ118 => exact fun _ _ _ h => h
        case hN118 => rfl
        case hw118 => rfl
        case hy118 => intro W hSw; (try dsimp only at hSw); go_split_ands; go_simp; (try with_reducible rfl)
        simp only [Act.put, List.setIfInBounds_toArray, List.set_cons_zero, List.set_cons_succ]
        refine take_ (oi := ?oi119) (i := 1) (N := some 8) (v := ?v119) ?hi119 (by kernel_rfl) (by kernel_rfl) (by kernel_rfl) ?hQ119 ?hN119 (Or.inl ⟨?hw119, ?hy119⟩) (by assumption) ?rest119
        case hi119 => simp only [List.getElem?_toArray, List.getElem?_cons_zero, List.getElem?_cons_succ]; rfl
        case hQ119 => exact fun _ _ _ h => h
        case hN119 => rfl
        case hw119 => rfl
        case hy119 => intro W hSw; (try dsimp only at hSw); go_split_ands; go_simp; (try with_reducible rfl)
        simp only [Act.put, List.setIfInBounds_toArray, List.set_cons_zero, List.set_cons_succ]
        refine take_ (oi := ?oi120) (i := 2) (N := some 9) (v := ?v120) ?hi120 (by kernel_rfl) (by kernel_rfl) (by kernel_rfl) ?hQ120 ?hN120 (Or.inl ⟨?hw120, ?hy120⟩) (by assumption) ?rest120
        case hi120 => simp only [List.getElem?_toArray, List.getElem?_cons_zero, List.getElem?_cons_succ]; rfl
        case hQ120 => exact fun _ _ _ h => h
        case hN120 => rfl
        case hw120 => rfl
        case hy120 => intro W hSw; (try dsimp only at hSw); go_split_ands; go_simp; (try with_reducible rfl)
        simp only [Act.put, List.setIfInBounds_toArray, List.set_cons_zero, List.set_cons_succ]
        refine take_ (oi := ?oi121) (i := 3) (N := some 10) (v := ?v121) ?hi121 (by kernel_rfl) (by kernel_rfl) (by kernel_rfl) ?hQ121 ?hN121 (Or.inl ⟨?hw121, ?hy121⟩) (by assumption) ?rest121
        case hi121 => simp only [List.getElem?_toArray, List.getElem?_cons_zero, List.getElem?_cons_succ]; rfl
        case hQ121 => exact fun _ _ _ h => h
        case hN121 => rfl
        case hw121 => rfl
        case hy121 => intro W hSw; (try dsimp only at hSw); go_split_ands; go_simp; (try with_reducible rfl)
        simp only [Act.put, List.setIfInBounds_toArray, List.set_cons_zero, List.set_cons_succ]
        refine take_ (oi := ?oi122) (i := 4) (N := some 11) (v := ?v122) ?hi122 (by kernel_rfl) (by kernel_rfl) (by kernel_rfl) ?hQ122 ?hN122 (Or.inl ⟨?hw122, ?hy122⟩) (by assumption) ?rest122
        case hi122 => simp only [List.getElem?_toArray, List.getElem?_cons_zero, List.getElem?_cons_succ]; rfl
        case hQ122 => exact fun _ _ _ h => h
        case hN122 => rfl
        case hw122 => rfl
        case hy122 => intro W hSw; (try dsimp only at hSw); go_split_ands; go_simp; (try with_reducible rfl)
        simp only [Act.put, List.setIfInBounds_toArray, List.set_cons_zero, List.set_cons_succ]
        refine take_ (oi := ?oi123) (i := 5) (N := some 12) (v := ?v123) ?hi123 (by kernel_rfl) (by kernel_rfl) (by kernel_rfl) ?hQ123 ?hN123 (Or.inl ⟨?hw123, ?hy123⟩) (by assumption) ?rest123
        case hi123 => simp only [List.getElem?_toArray, List.getElem?_cons_zero, List.getElem?_cons_succ]; rfl
        case hQ123 => exact fun _ _ _ h => h
        case hN123 => rfl
        case hw123 => rfl
        case hy123 => intro W hSw; (try dsimp only at hSw); go_split_ands; go_simp; (try with_reducible rfl)
        simp only [Act.put, List.setIfInBounds_toArray, List.set_cons_zero, List.set_cons_succ]
        refine wpAnyH_ready (rs := [6]) (by kernel_rfl) (by simp) ?_
        refine AllReadyH.cons (o := ?oi124) ?hi124 (fun K hK => ?step124) AllReadyH.nil
        case hi124 => simp only [List.getElem?_toArray, List.getElem?_cons_zero, List.getElem?_cons_succ]; rfl
        refine goes_ (N := some 13) Tryz.func50 (by kernel_rfl) rfl #[.float .f64 a0, .float .f64 b0] (by rfl) rfl rfl (by (try simp only [List.map_toArray, List.map_cons, List.map_nil]); rfl) ?_
        refine (M1.out _).mono ?_
        rintro e v6 ⟨rfl, hb⟩
        refine ⟨_, rfl, ?_⟩
        refine hK.out _ _ ?_ (fun hHeld => ?_)
        · (first | (go_split_ands; refine ⟨?_, ?_, ?_, ?_, ?_, ?_, ?_⟩ <;> assumption) | (go_split_ands; exact ⟨pw_cell_below hb (by assumption), pw_cell_below hb (by assumption), pw_cell_below hb (by assumption), pw_cell_below hb (by assumption), pw_cell_below hb (by assumption), pw_cell_below hb (by assumption), below_step (by assumption) hb⟩) | (refine ⟨?_, ?_, ?_, ?_, ?_, ?_, ?_⟩; (iterate 6 (focus (first | assumption | (simp [go_sem]; done) | (simp [go_sem, *]; done)))); repeat (first | (with_reducible exact Below.refl _ _) | (with_reducible apply below_drew) | (with_reducible apply below_alloc))))
        clear hK K
        simp only [Act.put, List.setIfInBounds_toArray, List.set_cons_zero, List.set_cons_succ]
        refine take_ (oi := ?oi125) (i := 7) (N := some 14) (v := ?v125) ?hi125 (by kernel_rfl) (by kernel_rfl) (by kernel_rfl) ?hQ125 ?hN125 (Or.inl ⟨?hw125, ?hy125⟩) (by assumption) ?rest125
        case hi125 => simp only [List.getElem?_toArray, List.getElem?_cons_zero, List.getElem?_cons_succ]; rfl
        case hQ125 => exact fun _ _ _ h => h
        case hN125 => rfl
        case hw125 => rfl
        case hy125 => intro W hSw; (try dsimp only at hSw); go_split_ands; go_simp; (try with_reducible rfl)
        simp only [Act.put, List.setIfInBounds_toArray, List.set_cons_zero, List.set_cons_succ]
        refine take_ (oi := ?oi126) (i := 8) (N := some 15) (v := ?v126) ?hi126 (by kernel_rfl) (by kernel_rfl) (by kernel_rfl) ?hQ126 ?hN126 (Or.inl ⟨?hw126, ?hy126⟩) (by assumption) ?rest126
        case hi126 => simp only [List.getElem?_toArray, List.getElem?_cons_zero, List.getElem?_cons_succ]; rfl
        case hQ126 => exact fun _ _ _ h => h
        case hN126 => rfl
        case hw126 => rfl
        case hy126 => intro W hSw; (try dsimp only at hSw); go_split_ands; go_simp; (try with_reducible rfl)
        simp only [Act.put, List.setIfInBounds_toArray, List.set_cons_zero, List.set_cons_succ]
        refine take_ (oi := ?oi127) (i := 9) (N := some 16) (v := ?v127) ?hi127 (by kernel_rfl) (by kernel_rfl) (by kernel_rfl) ?hQ127 ?hN127 (Or.inl ⟨?hw127, ?hy127⟩) (by assumption) ?rest127
        case hi127 => simp only [List.getElem?_toArray, List.getElem?_cons_zero, List.getElem?_cons_succ]; rfl
        case hQ127 => exact fun _ _ _ h => h
        case hN127 => rfl
        case hw127 => rfl
        case hy127 => intro W hSw; (try dsimp only at hSw); go_split_ands; go_simp; (try with_reducible rfl)
        simp only [Act.put, List.setIfInBounds_toArray, List.set_cons_zero, List.set_cons_succ]
        refine take_ (oi := ?oi128) (i := 10) (N := some 17) (v := ?v128) ?hi128 (by kernel_rfl) (by kernel_rfl) (by kernel_rfl) ?hQ128 ?hN128 (Or.inl ⟨?hw128, ?hy128⟩) (by assumption) ?rest128
        case hi128 => simp only [List.getElem?_toArray, List.getElem?_cons_zero, List.getElem?_cons_succ]; rfl
        case hQ128 => exact fun _ _ _ h => h
        case hN128 => rfl
        case hw128 => rfl
        case hy128 => intro W hSw; (try dsimp only at hSw); go_split_ands; go_simp; (try with_reducible rfl)
        simp only [Act.put, List.setIfInBounds_toArray, List.set_cons_zero, List.set_cons_succ]
        refine take_ (oi := ?oi129) (i := 11) (N := some 18) (v := ?v129) ?hi129 (by kernel_rfl) (by kernel_rfl) (by kernel_rfl) ?hQ129 ?hN129 (Or.inl ⟨?hw129, ?hy129⟩) (by assumption) ?rest129
        case hi129 => simp only [List.getElem?_toArray, List.getElem?_cons_zero, List.getElem?_cons_succ]; rfl
        case hQ129 => exact fun _ _ _ h => h
        case hN129 => rfl
        case hw129 => rfl
        case hy129 => intro W hSw; (try dsimp only at hSw); go_split_ands; go_simp; (try with_reducible rfl)
        simp only [Act.put, List.setIfInBounds_toArray, List.set_cons_zero, List.set_cons_succ]
        refine take_ (oi := ?oi130) (i := 12) (N := some 19) (v := ?v130) ?hi130 (by kernel_rfl) (by kernel_rfl) (by kernel_rfl) ?hQ130 ?hN130 (Or.inl ⟨?hw130, ?hy130⟩) (by assumption) ?rest130
        case hi130 => simp only [List.getElem?_toArray, List.getElem?_cons_zero, List.getElem?_cons_succ]; rfl
        case hQ130 => exact fun _ _ _ h => h
        case hN130 => rfl
        case hw130 => rfl
        case hy130 => intro W hSw; (try dsimp only at hSw); go_split_ands; go_simp; (try with_reducible rfl)
        simp only [Act.put, List.setIfInBounds_toArray, List.set_cons_zero, List.set_cons_succ]
        refine take_ (oi := ?oi131) (i := 13) (N := some 20) (v := ?v131) ?hi131 (by kernel_rfl) (by kernel_rfl) (by kernel_rfl) ?hQ131 ?hN131 (Or.inl ⟨?hw131, ?hy131⟩) (by assumption) ?rest131
        case hi131 => simp only [List.getElem?_toArray, List.getElem?_cons_zero, List.getElem?_cons_succ]; rfl
        case hQ131 => exact fun _ _ _ h => h
        case hN131 => rfl
        case hw131 => rfl
        case hy131 => intro W hSw; (try dsimp only at hSw); go_split_ands; go_simp; (try with_reducible rfl)
        simp only [Act.put, List.setIfInBounds_toArray, List.set_cons_zero, List.set_cons_succ]
        refine take_ (oi := ?oi132) (i := 14) (N := some 21) (v := ?v132) ?hi132 (by kernel_rfl) (by kernel_rfl) (by kernel_rfl) ?hQ132 ?hN132 (Or.inl ⟨?hw132, ?hy132⟩) (by assumption) ?rest132
        case hi132 => simp only [List.getElem?_toArray, List.getElem?_cons_zero, List.getElem?_cons_succ]; rfl
        case hQ132 => exact fun _ _ _ h => h
        case hN132 => rfl
        case hw132 => rfl
        case hy132 => intro W hSw; (try dsimp only at hSw); go_split_ands; go_simp; (try with_reducible rfl)
        simp only [Act.put, List.setIfInBounds_toArray, List.set_cons_zero, List.set_cons_succ]
        refine wpAnyH_ready (rs := [15]) (by kernel_rfl) (by simp) ?_
        refine AllReadyH.cons (o := ?oi133) ?hi133 (fun K hK => ?step133) AllReadyH.nil
        case hi133 => simp only [List.getElem?_toArray, List.getElem?_cons_zero, List.getElem?_cons_succ]; rfl
        refine goes_ (N := some 22) Tryz.func51 (by kernel_rfl) rfl #[.float .f64 a0, .float .f64 b0] (by rfl) rfl rfl (by (try simp only [List.map_toArray, List.map_cons, List.map_nil]); rfl) ?_
        refine (M2.out _).mono ?_
        rintro e v15 ⟨rfl, hb⟩
        refine ⟨_, rfl, ?_⟩
        refine hK.out _ _ ?_ (fun hHeld => ?_)
        · (first | (go_split_ands; refine ⟨?_, ?_, ?_, ?_, ?_, ?_, ?_⟩ <;> assumption) | (go_split_ands; exact ⟨pw_cell_below hb (by assumption), pw_cell_below hb (by assumption), pw_cell_below hb (by assumption), pw_cell_below hb (by assumption), pw_cell_below hb (by assumption), pw_cell_below hb (by assumption), below_step (by assumption) hb⟩) | (refine ⟨?_, ?_, ?_, ?_, ?_, ?_, ?_⟩; (iterate 6 (focus (first | assumption | (simp [go_sem]; done) | (simp [go_sem, *]; done)))); repeat (first | (with_reducible exact Below.refl _ _) | (with_reducible apply below_drew) | (with_reducible apply below_alloc))))
        clear hK K
        simp only [Act.put, List.setIfInBounds_toArray, List.set_cons_zero, List.set_cons_succ]
        refine take_ (oi := ?oi134) (i := 16) (N := some 23) (v := ?v134) ?hi134 (by kernel_rfl) (by kernel_rfl) (by kernel_rfl) ?hQ134 ?hN134 (Or.inl ⟨?hw134, ?hy134⟩) (by assumption) ?rest134
        case hi134 => simp only [List.getElem?_toArray, List.getElem?_cons_zero, List.getElem?_cons_succ]; rfl
        case hQ134 => exact fun _ _ _ h => h
        case hN134 => rfl
        case hw134 => rfl
        case hy134 => intro W hSw; (try dsimp only at hSw); go_split_ands; go_simp; (try with_reducible rfl)
        simp only [Act.put, List.setIfInBounds_toArray, List.set_cons_zero, List.set_cons_succ]
        refine take_ (oi := ?oi135) (i := 17) (N := some 24) (v := ?v135) ?hi135 (by kernel_rfl) (by kernel_rfl) (by kernel_rfl) ?hQ135 ?hN135 (Or.inl ⟨?hw135, ?hy135⟩) (by assumption) ?rest135
        case hi135 => simp only [List.getElem?_toArray, List.getElem?_cons_zero, List.getElem?_cons_succ]; rfl
        case hQ135 => exact fun _ _ _ h => h
        case hN135 => rfl
        case hw135 => rfl
        case hy135 => intro W hSw; (try dsimp only at hSw); go_split_ands; go_simp; (try with_reducible rfl)
        simp only [Act.put, List.setIfInBounds_toArray, List.set_cons_zero, List.set_cons_succ]
        refine take_ (oi := ?oi136) (i := 18) (N := some 25) (v := ?v136) ?hi136 (by kernel_rfl) (by kernel_rfl) (by kernel_rfl) ?hQ136 ?hN136 (Or.inl ⟨?hw136, ?hy136⟩) (by assumption) ?rest136
        case hi136 => simp only [List.getElem?_toArray, List.getElem?_cons_zero, List.getElem?_cons_succ]; rfl
        case hQ136 => exact fun _ _ _ h => h
        case hN136 => rfl
        case hw136 => rfl
        case hy136 => intro W hSw; (try dsimp only at hSw); go_split_ands; go_simp; (try with_reducible rfl)
        simp only [Act.put, List.setIfInBounds_toArray, List.set_cons_zero, List.set_cons_succ]
        refine take_ (oi := ?oi137) (i := 19) (N := some 26) (v := ?v137) ?hi137 (by kernel_rfl) (by kernel_rfl) (by kernel_rfl) ?hQ137 ?hN137 (Or.inl ⟨?hw137, ?hy137⟩) (by assumption) ?rest137
        case hi137 => simp only [List.getElem?_toArray, List.getElem?_cons_zero, List.getElem?_cons_succ]; rfl
        case hQ137 => exact fun _ _ _ h => h
        case hN137 => rfl
        case hw137 => rfl
        case hy137 => intro W hSw; (try dsimp only at hSw); go_split_ands; go_simp; (try with_reducible rfl)
        simp only [Act.put, List.setIfInBounds_toArray, List.set_cons_zero, List.set_cons_succ]
        refine take_ (oi := ?oi138) (i := 20) (N := some 27) (v := ?v138) ?hi138 (by kernel_rfl) (by kernel_rfl) (by kernel_rfl) ?hQ138 ?hN138 (Or.inl ⟨?hw138, ?hy138⟩) (by assumption) ?rest138
        case hi138 => simp only [List.getElem?_toArray, List.getElem?_cons_zero, List.getElem?_cons_succ]; rfl
        case hQ138 => exact fun _ _ _ h => h
        case hN138 => rfl
        case hw138 => rfl
        case hy138 => intro W hSw; (try dsimp only at hSw); go_split_ands; go_simp; (try with_reducible rfl)
        simp only [Act.put, List.setIfInBounds_toArray, List.set_cons_zero, List.set_cons_succ]
        refine take_ (oi := ?oi139) (i := 21) (N := some 28) (v := ?v139) ?hi139 (by kernel_rfl) (by kernel_rfl) (by kernel_rfl) ?hQ139 ?hN139 (Or.inl ⟨?hw139, ?hy139⟩) (by assumption) ?rest139
        case hi139 => simp only [List.getElem?_toArray, List.getElem?_cons_zero, List.getElem?_cons_succ]; rfl
        case hQ139 => exact fun _ _ _ h => h
        case hN139 => rfl
        case hw139 => rfl
        case hy139 => intro W hSw; (try dsimp only at hSw); go_split_ands; go_simp; (try with_reducible rfl)
        simp only [Act.put, List.setIfInBounds_toArray, List.set_cons_zero, List.set_cons_succ]
        refine take_ (oi := ?oi140) (i := 22) (N := some 29) (v := ?v140) ?hi140 (by kernel_rfl) (by kernel_rfl) (by kernel_rfl) ?hQ140 ?hN140 (Or.inl ⟨?hw140, ?hy140⟩) (by assumption) ?rest140
        case hi140 => simp only [List.getElem?_toArray, List.getElem?_cons_zero, List.getElem?_cons_succ]; rfl
        case hQ140 => exact fun _ _ _ h => h
        case hN140 => rfl
        case hw140 => rfl
        case hy140 => intro W hSw; (try dsimp only at hSw); go_split_ands; go_simp; (try with_reducible rfl)
        simp only [Act.put, List.setIfInBounds_toArray, List.set_cons_zero, List.set_cons_succ]
        refine take_ (oi := ?oi141) (i := 23) (N := some 30) (v := ?v141) ?hi141 (by kernel_rfl) (by kernel_rfl) (by kernel_rfl) ?hQ141 ?hN141 (Or.inl ⟨?hw141, ?hy141⟩) (by assumption) ?rest141
        case hi141 => simp only [List.getElem?_toArray, List.getElem?_cons_zero, List.getElem?_cons_succ]; rfl
        case hQ141 => exact fun _ _ _ h => h
        case hN141 => rfl
        case hw141 => rfl
        case hy141 => intro W hSw; (try dsimp only at hSw); go_split_ands; go_simp; (try with_reducible rfl)
        simp only [Act.put, List.setIfInBounds_toArray, List.set_cons_zero, List.set_cons_succ]
        refine take_ (oi := ?oi142) (i := 24) (N := some 31) (v := ?v142) ?hi142 (by kernel_rfl) (by kernel_rfl) (by kernel_rfl) ?hQ142 ?hN142 (Or.inl ⟨?hw142, ?hy142⟩) (by assumption) ?rest142
        case hi142 => simp only [List.getElem?_toArray, List.getElem?_cons_zero, List.getElem?_cons_succ]; rfl
        case hQ142 => exact fun _ _ _ h => h
        case hN142 => rfl
        case hw142 => rfl
        case hy142 => intro W hSw; (try dsimp only at hSw); go_split_ands; go_simp; (try with_reducible rfl)
        simp only [Act.put, List.setIfInBounds_toArray, List.set_cons_zero, List.set_cons_succ]
        refine wpAnyH_ready (rs := [25]) (by kernel_rfl) (by simp) ?_
        refine AllReadyH.cons (o := ?oi143) ?hi143 (fun K hK => ?step143) AllReadyH.nil
        case hi143 => simp only [List.getElem?_toArray, List.getElem?_cons_zero, List.getElem?_cons_succ]; rfl
        refine goes_ (N := some 32) Tryz.func50 (by kernel_rfl) rfl #[.float .f64 a1, .float .f64 b1] (by rfl) rfl rfl (by (try simp only [List.map_toArray, List.map_cons, List.map_nil]); rfl) ?_
        refine (M3.out _).mono ?_
        rintro e v25 ⟨rfl, hb⟩
        refine ⟨_, rfl, ?_⟩
        refine hK.out _ _ ?_ (fun hHeld => ?_)
        · (first | (go_split_ands; refine ⟨?_, ?_, ?_, ?_, ?_, ?_, ?_⟩ <;> assumption) | (go_split_ands; exact ⟨pw_cell_below hb (by assumption), pw_cell_below hb (by assumption), pw_cell_below hb (by assumption), pw_cell_below hb (by assumption), pw_cell_below hb (by assumption), pw_cell_below hb (by assumption), below_step (by assumption) hb⟩) | (refine ⟨?_, ?_, ?_, ?_, ?_, ?_, ?_⟩; (iterate 6 (focus (first | assumption | (simp [go_sem]; done) | (simp [go_sem, *]; done)))); repeat (first | (with_reducible exact Below.refl _ _) | (with_reducible apply below_drew) | (with_reducible apply below_alloc))))
        clear hK K
        simp only [Act.put, List.setIfInBounds_toArray, List.set_cons_zero, List.set_cons_succ]
        refine take_ (oi := ?oi144) (i := 26) (N := some 33) (v := ?v144) ?hi144 (by kernel_rfl) (by kernel_rfl) (by kernel_rfl) ?hQ144 ?hN144 (Or.inl ⟨?hw144, ?hy144⟩) (by assumption) ?rest144
        case hi144 => simp only [List.getElem?_toArray, List.getElem?_cons_zero, List.getElem?_cons_succ]; rfl
        case hQ144 => exact fun _ _ _ h => h
        case hN144 => rfl
        case hw144 => rfl
        case hy144 => intro W hSw; (try dsimp only at hSw); go_split_ands; go_simp; (try with_reducible rfl)
        simp only [Act.put, List.setIfInBounds_toArray, List.set_cons_zero, List.set_cons_succ]
        refine take_ (oi := ?oi145) (i := 27) (N := some 34) (v := ?v145) ?hi145 (by kernel_rfl) (by kernel_rfl) (by kernel_rfl) ?hQ145 ?hN145 (Or.inl ⟨?hw145, ?hy145⟩) (by assumption) ?rest145
        case hi145 => simp only [List.getElem?_toArray, List.getElem?_cons_zero, List.getElem?_cons_succ]; rfl
        case hQ145 => exact fun _ _ _ h => h
        case hN145 => rfl
        case hw145 => rfl
        case hy145 => intro W hSw; (try dsimp only at hSw); go_split_ands; go_simp; (try with_reducible rfl)
        simp only [Act.put, List.setIfInBounds_toArray, List.set_cons_zero, List.set_cons_succ]
        refine take_ (oi := ?oi146) (i := 28) (N := some 35) (v := ?v146) ?hi146 (by kernel_rfl) (by kernel_rfl) (by kernel_rfl) ?hQ146 ?hN146 (Or.inl ⟨?hw146, ?hy146⟩) (by assumption) ?rest146
        case hi146 => simp only [List.getElem?_toArray, List.getElem?_cons_zero, List.getElem?_cons_succ]; rfl
        case hQ146 => exact fun _ _ _ h => h
        case hN146 => rfl
        case hw146 => rfl
        case hy146 => intro W hSw; (try dsimp only at hSw); go_split_ands; go_simp; (try with_reducible rfl)
        simp only [Act.put, List.setIfInBounds_toArray, List.set_cons_zero, List.set_cons_succ]
        refine take_ (oi := ?oi147) (i := 29) (N := some 36) (v := ?v147) ?hi147 (by kernel_rfl) (by kernel_rfl) (by kernel_rfl) ?hQ147 ?hN147 (Or.inl ⟨?hw147, ?hy147⟩) (by assumption) ?rest147
        case hi147 => simp only [List.getElem?_toArray, List.getElem?_cons_zero, List.getElem?_cons_succ]; rfl
        case hQ147 => exact fun _ _ _ h => h
        case hN147 => rfl
        case hw147 => rfl
        case hy147 => intro W hSw; (try dsimp only at hSw); go_split_ands; go_simp; (try with_reducible rfl)
        simp only [Act.put, List.setIfInBounds_toArray, List.set_cons_zero, List.set_cons_succ]
        refine take_ (oi := ?oi148) (i := 30) (N := some 37) (v := ?v148) ?hi148 (by kernel_rfl) (by kernel_rfl) (by kernel_rfl) ?hQ148 ?hN148 (Or.inl ⟨?hw148, ?hy148⟩) (by assumption) ?rest148
        case hi148 => simp only [List.getElem?_toArray, List.getElem?_cons_zero, List.getElem?_cons_succ]; rfl
        case hQ148 => exact fun _ _ _ h => h
        case hN148 => rfl
        case hw148 => rfl
        case hy148 => intro W hSw; (try dsimp only at hSw); go_split_ands; go_simp; (try with_reducible rfl)
        simp only [Act.put, List.setIfInBounds_toArray, List.set_cons_zero, List.set_cons_succ]
        refine take_ (oi := ?oi149) (i := 31) (N := some 38) (v := ?v149) ?hi149 (by kernel_rfl) (by kernel_rfl) (by kernel_rfl) ?hQ149 ?hN149 (Or.inl ⟨?hw149, ?hy149⟩) (by assumption) ?rest149
        case hi149 => simp only [List.getElem?_toArray, List.getElem?_cons_zero, List.getElem?_cons_succ]; rfl
        case hQ149 => exact fun _ _ _ h => h
        case hN149 => rfl
        case hw149 => rfl
        case hy149 => intro W hSw; (try dsimp only at hSw); go_split_ands; go_simp; (try with_reducible rfl)
        simp only [Act.put, List.setIfInBounds_toArray, List.set_cons_zero, List.set_cons_succ]
        refine take_ (oi := ?oi150) (i := 32) (N := some 39) (v := ?v150) ?hi150 (by kernel_rfl) (by kernel_rfl) (by kernel_rfl) ?hQ150 ?hN150 (Or.inl ⟨?hw150, ?hy150⟩) (by assumption) ?rest150
        case hi150 => simp only [List.getElem?_toArray, List.getElem?_cons_zero, List.getElem?_cons_succ]; rfl
        case hQ150 => exact fun _ _ _ h => h
        case hN150 => rfl
        case hw150 => rfl
        case hy150 => intro W hSw; (try dsimp only at hSw); go_split_ands; go_simp; (try with_reducible rfl)
        simp only [Act.put, List.setIfInBounds_toArray, List.set_cons_zero, List.set_cons_succ]
        refine take_ (oi := ?oi151) (i := 33) (N := some 40) (v := ?v151) ?hi151 (by kernel_rfl) (by kernel_rfl) (by kernel_rfl) ?hQ151 ?hN151 (Or.inl ⟨?hw151, ?hy151⟩) (by assumption) ?rest151
        case hi151 => simp only [List.getElem?_toArray, List.getElem?_cons_zero, List.getElem?_cons_succ]; rfl
        case hQ151 => exact fun _ _ _ h => h
        case hN151 => rfl
        case hw151 => rfl
        case hy151 => intro W hSw; (try dsimp only at hSw); go_split_ands; go_simp; (try with_reducible rfl)
        simp only [Act.put, List.setIfInBounds_toArray, List.set_cons_zero, List.set_cons_succ]
        refine take_ (oi := ?oi152) (i := 34) (N := some 41) (v := ?v152) ?hi152 (by kernel_rfl) (by kernel_rfl) (by kernel_rfl) ?hQ152 ?hN152 (Or.inl ⟨?hw152, ?hy152⟩) (by assumption) ?rest152
        case hi152 => simp only [List.getElem?_toArray, List.getElem?_cons_zero, List.getElem?_cons_succ]; rfl
        case hQ152 => exact fun _ _ _ h => h
        case hN152 => rfl
        case hw152 => rfl
        case hy152 => intro W hSw; (try dsimp only at hSw); go_split_ands; go_simp; (try with_reducible rfl)
        simp only [Act.put, List.setIfInBounds_toArray, List.set_cons_zero, List.set_cons_succ]
        refine wpAnyH_ready (rs := [35]) (by kernel_rfl) (by simp) ?_
        refine AllReadyH.cons (o := ?oi153) ?hi153 (fun K hK => ?step153) AllReadyH.nil
        case hi153 => simp only [List.getElem?_toArray, List.getElem?_cons_zero, List.getElem?_cons_succ]; rfl
        refine goes_ (N := some 42) Tryz.func51 (by kernel_rfl) rfl #[.float .f64 a1, .float .f64 b1] (by rfl) rfl rfl (by (try simp only [List.map_toArray, List.map_cons, List.map_nil]); rfl) ?_
        refine (M4.out _).mono ?_
        rintro e v35 ⟨rfl, hb⟩
        refine ⟨_, rfl, ?_⟩
        refine hK.out _ _ ?_ (fun hHeld => ?_)
        · (first | (go_split_ands; refine ⟨?_, ?_, ?_, ?_, ?_, ?_, ?_⟩ <;> assumption) | (go_split_ands; exact ⟨pw_cell_below hb (by assumption), pw_cell_below hb (by assumption), pw_cell_below hb (by assumption), pw_cell_below hb (by assumption), pw_cell_below hb (by assumption), pw_cell_below hb (by assumption), below_step (by assumption) hb⟩) | (refine ⟨?_, ?_, ?_, ?_, ?_, ?_, ?_⟩; (iterate 6 (focus (first | assumption | (simp [go_sem]; done) | (simp [go_sem, *]; done)))); repeat (first | (with_reducible exact Below.refl _ _) | (with_reducible apply below_drew) | (with_reducible apply below_alloc))))
        clear hK K
        simp only [Act.put, List.setIfInBounds_toArray, List.set_cons_zero, List.set_cons_succ]
        refine take_ (oi := ?oi154) (i := 36) (N := some 43) (v := ?v154) ?hi154 (by kernel_rfl) (by kernel_rfl) (by kernel_rfl) ?hQ154 ?hN154 (Or.inl ⟨?hw154, ?hy154⟩) (by assumption) ?rest154
        case hi154 => simp only [List.getElem?_toArray, List.getElem?_cons_zero, List.getElem?_cons_succ]; rfl
        case hQ154 => exact fun _ _ _ h => h
        case hN154 => rfl
        case hw154 => rfl
        case hy154 => intro W hSw; (try dsimp only at hSw); go_split_ands; go_simp; (try with_reducible rfl)
        simp only [Act.put, List.setIfInBounds_toArray, List.set_cons_zero, List.set_cons_succ]
        refine take_ (oi := ?oi155) (i := 37) (N := some 44) (v := ?v155) ?hi155 (by kernel_rfl) (by kernel_rfl) (by kernel_rfl) ?hQ155 ?hN155 (Or.inl ⟨?hw155, ?hy155⟩) (by assumption) ?rest155
        case hi155 => simp only [List.getElem?_toArray, List.getElem?_cons_zero, List.getElem?_cons_succ]; rfl
        case hQ155 => exact fun _ _ _ h => h
        case hN155 => rfl
        case hw155 => rfl
        case hy155 => intro W hSw; (try dsimp only at hSw); go_split_ands; go_simp; (try with_reducible rfl)
        simp only [Act.put, List.setIfInBounds_toArray, List.set_cons_zero, List.set_cons_succ]
        refine take_ (oi := ?oi156) (i := 38) (N := some 6) (v := ?v156) ?hi156 (by kernel_rfl) (by kernel_rfl) (by kernel_rfl) ?hQ156 ?hN156 (Or.inl ⟨?hw156, ?hy156⟩) (by assumption) ?rest156
        case hi156 => simp only [List.getElem?_toArray, List.getElem?_cons_zero, List.getElem?_cons_succ]; rfl
        case hQ156 => exact fun _ _ _ h => h
        case hN156 => rfl
        case hw156 => rfl
        case hy156 => intro W hSw; (try dsimp only at hSw); go_split_ands; go_simp; (try with_reducible rfl)
        simp only [Act.put, List.setIfInBounds_toArray, List.set_cons_zero, List.set_cons_succ]
        refine wpAnyH_done (by kernel_rfl) ?_ _
        refine NoPanic.normal ?_
        go_wp2
        go_ret
        go_split_ands
        exact ⟨rfl, by assumption⟩
end Go.Proofs.YtjhgmpeoagndjaaGreat.GE
