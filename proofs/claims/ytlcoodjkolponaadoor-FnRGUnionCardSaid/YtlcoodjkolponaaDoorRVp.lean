/-
  What laws.FnRGUnion computes is true: the plain law. No condition beyond the law's own guards.
-/
import Derived.Test.YtlcoodjkolponaaDoorLRUUnion0c
import Derived.Test.YtlcoodjkolponaaDoorLRUUnion1c
namespace Go.Proofs.YtlcoodjkolponaaDoor.PRU
open Go.RowKit Go.Proofs.YtlcoodjkolponaaDoorW.PrintWords Go.Proofs.YtlcoodjkolponaaDoorW.PrintLast Go.Proofs.YtlcoodjkolponaaDoorW.PrintMore
open Go.Proofs.YtlcoodjkolponaaDoor.PRG (C cmpC cmpK loC hiC)
set_option linter.unusedVariables false
set_option linter.unusedSimpArgs false

/-- A cut as the statement draws it: its kind and its key. -/
def Fine (k x : Int) : Prop := 0 ≤ k ∧ k ≤ 4 ∧ -20 ≤ x ∧ x ≤ 20 ∧ (k ≠ 2 → k ≠ 3 → x = 0)
/-- Its place. -/
def plc (k x : Int) : Int := if k = 0 ∨ k = 1 then k else if k = 2 ∨ k = 3 then 2 * (x + 1001) + k else 10000
theorem w64 {x : Int} (h0 : -9223372036854775808 ≤ x) (h1 : x ≤ 9223372036854775807) : wrap64 x = x := by
  unfold wrap64; omega
/-- A whole number of 64 bits. -/
def I64 (n : Int) : Prop := -9223372036854775808 ≤ n ∧ n ≤ 9223372036854775807

theorem rgCut_fine (a b : Int) (ha : I64 a) (hb : I64 b) : ∃ k x : Int, Fine k x ∧ laws_rgCut.f a b = some (k, x) := by
  unfold I64 at ha hb
  have t5 : ∀ x : Int, -4 ≤ Int.tmod x 5 ∧ Int.tmod x 5 ≤ 4 := fun x => by
    have h := Int.natAbs_tmod x 5
    have h2 : (Int.tmod x 5).natAbs < 5 := by rw [h]; exact Nat.mod_lt _ (by decide)
    omega
  have t41 : ∀ x : Int, -40 ≤ Int.tmod x 41 ∧ Int.tmod x 41 ≤ 40 := fun x => by
    have h := Int.natAbs_tmod x 41
    have h2 : (Int.tmod x 41).natAbs < 41 := by rw [h]; exact Nat.mod_lt _ (by decide)
    omega
  have a1 := t5 a
  have b1 := t41 b
  have e1 : wrap64 (Int.tmod a 5 + 5) = Int.tmod a 5 + 5 := w64 (by omega) (by omega)
  have e2 : wrap64 (Int.tmod b 41 + 41) = Int.tmod b 41 + 41 := w64 (by omega) (by omega)
  have a2 := t5 (Int.tmod a 5 + 5)
  have b2 := t41 (Int.tmod b 41 + 41)
  have a3 : 0 ≤ Int.tmod (Int.tmod a 5 + 5) 5 := Int.tmod_nonneg _ (by omega)
  have b3 : 0 ≤ Int.tmod (Int.tmod b 41 + 41) 41 := Int.tmod_nonneg _ (by omega)
  unfold laws_rgCut.f
  rw [e1, e2]
  generalize Int.tmod (Int.tmod a 5 + 5) 5 = u at *
  generalize Int.tmod (Int.tmod b 41 + 41) 41 = v at *
  rw [w64 (x := v - 20) (by omega) (by omega)]
  by_cases h2 : u = 2
  · rw [if_pos h2]; exact ⟨_, _, ⟨by omega, by omega, by omega, by omega, by omega⟩, rfl⟩
  · rw [if_neg h2]
    by_cases h3 : u = 3
    · rw [if_pos h3]; exact ⟨_, _, ⟨by omega, by omega, by omega, by omega, by omega⟩, rfl⟩
    · rw [if_neg h3]; exact ⟨_, _, ⟨by omega, by omega, by omega, by omega, by omega⟩, rfl⟩

theorem place_fine (n : Nat) (hn : 2 ≤ n) (k x : Int) (h : Fine k x) : spec_RGPlace.f n k x = some (plc k x) := by
  obtain ⟨n, rfl⟩ : ∃ j, n = j + 2 := ⟨n - 2, by omega⟩
  obtain ⟨h0, h1, h2, h3, h4⟩ := h
  unfold spec_RGPlace.f plc
  have : k = 0 ∨ k = 1 ∨ k = 2 ∨ k = 3 ∨ k = 4 := by omega
  rcases this with rfl | rfl | rfl | rfl | rfl <;> simp [spec_RGPlace.j0, spec_RGPlace.j1]
  all_goals (rw [w64 (x := x + 1001) (by omega) (by omega), w64 (x := 2 * (x + 1001)) (by omega) (by omega), w64 (by omega) (by omega)])

def sgn (x : Int) : Int := if x < 0 then -1 else if x > 0 then 1 else 0
theorem cmp_sgn (k x l y : Int) (hx : Fine k x) (hy : Fine l y) : cmpC (C.of k x) (C.of l y) = sgn (plc k x - plc l y) := by
  obtain ⟨h0, h1, h2, h3, h4⟩ := hx
  obtain ⟨g0, g1, g2, g3, g4⟩ := hy
  have hx : k = 0 ∨ k = 1 ∨ k = 2 ∨ k = 3 ∨ k = 4 := by omega
  have hy : l = 0 ∨ l = 1 ∨ l = 2 ∨ l = 3 ∨ l = 4 := by omega
  rcases hx with rfl | rfl | rfl | rfl | rfl <;> rcases hy with rfl | rfl | rfl | rfl | rfl <;> simp [C.of, cmpC, plc, sgn, cmpK] <;> (repeat' split) <;> omega
theorem sgn_0 (z : Int) : (sgn z == 0) = decide (z = 0) := by
  rw [Bool.eq_iff_iff]; simp only [beq_iff_eq, decide_eq_true_eq]; unfold sgn; repeat' split
  all_goals omega
theorem sgn_m (z : Int) : (sgn z == -1) = decide (z < 0) := by
  rw [Bool.eq_iff_iff]; simp only [beq_iff_eq, decide_eq_true_eq]; unfold sgn; repeat' split
  all_goals omega
theorem sgn_1 (z : Int) : (sgn z == 1) = decide (0 < z) := by
  rw [Bool.eq_iff_iff]; simp only [beq_iff_eq, decide_eq_true_eq]; unfold sgn; repeat' split
  all_goals omega
theorem sgn_pos (z : Int) : decide (0 < sgn z) = decide (0 < z) := by
  rw [Bool.eq_iff_iff]; simp only [decide_eq_true_eq]; unfold sgn; repeat' split
  all_goals omega
theorem sgn_le (z : Int) : decide (sgn z ≤ 0) = decide (z ≤ 0) := by
  rw [Bool.eq_iff_iff]; simp only [decide_eq_true_eq]; unfold sgn; repeat' split
  all_goals omega
theorem sgn_ge (z : Int) : decide (0 ≤ sgn z) = decide (0 ≤ z) := by
  rw [Bool.eq_iff_iff]; simp only [decide_eq_true_eq]; unfold sgn; repeat' split
  all_goals omega

/-- A range as the statement draws it. -/
structure Full (k x l y : Int) : Prop where
  lo : Fine k x
  hi : Fine l y
  lt : plc k x < plc l y

theorem rgFull_full (n : Nat) (hn : 4 ≤ n) (a b c d : Int) (ha : I64 a) (hb : I64 b) (hc : I64 c) (hd : I64 d) :
    ∃ k x l y, Full k x l y ∧ laws_rgFull.f n a b c d = some (k, x, l, y) := by
  obtain ⟨n, rfl⟩ : ∃ j, n = j + 1 := ⟨n - 1, by omega⟩
  obtain ⟨k, x, f1, e1⟩ := rgCut_fine a b ha hb
  obtain ⟨l, y, f2, e2⟩ := rgCut_fine c d hc hd
  have zero : Full 0 0 4 0 := ⟨⟨by omega, by omega, by omega, by omega, by omega⟩, ⟨by omega, by omega, by omega, by omega, by omega⟩, by simp [plc]⟩
  have j : ∀ k x l y, Fine k x → Fine l y → plc k x ≤ plc l y → ∃ k' x' l' y', Full k' x' l' y' ∧ laws_rgFull.j0 (n + 1) k x l y = some (k', x', l', y') := by
    intro k x l y f1 f2 hle
    simp only [laws_rgFull.j0]
    rw [place_fine n (by omega) k x f1]
    simp only [Option.bind_some]
    rw [place_fine n (by omega) l y f2]
    simp only [Option.bind_some]
    by_cases e : plc k x = plc l y
    · rw [if_pos e]; exact ⟨_, _, _, _, zero, rfl⟩
    · rw [if_neg e]; exact ⟨_, _, _, _, ⟨f1, f2, by omega⟩, rfl⟩
  unfold laws_rgFull.f
  rw [e1, e2]
  simp only [Option.bind_some]
  rw [place_fine (n + 1) (by omega) k x f1]
  simp only [Option.bind_some]
  rw [place_fine (n + 1) (by omega) l y f2]
  simp only [Option.bind_some]
  by_cases e : plc k x > plc l y
  · rw [if_pos e]; exact j l y k x f2 f1 (by omega)
  · rw [if_neg e]; exact j k x l y f1 f2 (by omega)

theorem ends_fine (n : Nat) (hn : 2 ≤ n) {k x l y : Int} (f1 : Fine k x) (f2 : Fine l y) : spec_RGEnds.f n k x l y = some (plc k x, plc l y) := by
  unfold spec_RGEnds.f
  rw [place_fine n hn k x f1]
  simp only [Option.bind_some]
  rw [place_fine n hn l y f2]
  rfl
theorem none_fine (n : Nat) (hn : 2 ≤ n) {k x l y : Int} (f1 : Fine k x) (f2 : Fine l y) : spec_RGNone.f n k x l y = some (decide (plc k x ≥ plc l y)) := by
  unfold spec_RGNone.f
  rw [ends_fine n hn f1 f2]
  rfl
theorem same_fine (n : Nat) (hn : 2 ≤ n) {k x l y k' x' l' y' : Int} (f1 : Fine k x) (f2 : Fine l y) (G : Full k' x' l' y') :
    spec_RGSame.f n k x l y k' x' l' y' = some (decide (plc k x = plc k' x') && decide (plc l y = plc l' y')) := by
  have g := G.lt
  unfold spec_RGSame.f
  rw [ends_fine n hn f1 f2, ends_fine n hn G.lo G.hi, none_fine n hn f1 f2, none_fine n hn G.lo G.hi]
  simp only [Option.bind_some]
  have hb : ∀ a b : Int, (a == b) = decide (a = b) := fun a b => by rw [Bool.eq_iff_iff]; simp
  have q : ¬ (decide (plc k' x' ≥ plc l' y') = true) := by simp; omega
  rw [if_neg q]
  by_cases e : plc k x = plc k' x'
  · rw [if_pos e, e]; simp [hb]
  · rw [if_neg e]; simp [e]
theorem touch_fine (n : Nat) (hn : 2 ≤ n) {k x l y k' x' l' y' : Int} (F : Full k x l y) (G : Full k' x' l' y') :
    spec_RGTouch.f n k x l y k' x' l' y' = some (decide (plc k x ≤ plc l' y') && decide (plc k' x' ≤ plc l y)) := by
  unfold spec_RGTouch.f
  rw [ends_fine n hn F.lo F.hi, ends_fine n hn G.lo G.hi]
  simp only [Option.bind_some]
  by_cases e : plc k x ≤ plc l' y'
  · rw [if_pos e]; simp [e]
  · rw [if_neg e]; simp [e]

theorem of_fine {k x : Int} (h : Fine k x) : (C.of k x).kind = k ∧ (C.of k x).key = x := by
  obtain ⟨h0, h1, h2, h3, h4⟩ := h
  have : k = 0 ∨ k = 1 ∨ k = 2 ∨ k = 3 ∨ k = 4 := by omega
  rcases this with rfl | rfl | rfl | rfl | rfl <;> simp [C.of, C.kind, C.key] <;> omega
theorem lo_fine {k x l y : Int} (f : Fine k x) (g : Fine l y) : ∃ a b, Fine a b ∧ (loC (C.of k x) (C.of l y)).kind = a ∧ (loC (C.of k x) (C.of l y)).key = b ∧ plc a b = min (plc k x) (plc l y) := by
  unfold loC
  have h := sgn_le (plc k x - plc l y)
  rw [cmp_sgn _ _ _ _ f g]
  by_cases e : sgn (plc k x - plc l y) ≤ 0
  · rw [if_pos e]
    obtain ⟨p, q⟩ := of_fine f
    have e2 : plc k x - plc l y ≤ 0 := by simpa [e] using h.symm
    exact ⟨k, x, f, p, q, by omega⟩
  · rw [if_neg e]
    obtain ⟨p, q⟩ := of_fine g
    have e2 : ¬ plc k x - plc l y ≤ 0 := by simpa [e] using h.symm
    exact ⟨l, y, g, p, q, by omega⟩
theorem hi_fine {k x l y : Int} (f : Fine k x) (g : Fine l y) : ∃ a b, Fine a b ∧ (hiC (C.of k x) (C.of l y)).kind = a ∧ (hiC (C.of k x) (C.of l y)).key = b ∧ plc a b = max (plc k x) (plc l y) := by
  unfold hiC
  have h := sgn_le (plc k x - plc l y)
  rw [cmp_sgn _ _ _ _ f g]
  by_cases e : sgn (plc k x - plc l y) ≤ 0
  · rw [if_pos e]
    obtain ⟨p, q⟩ := of_fine g
    have e2 : plc k x - plc l y ≤ 0 := by simpa [e] using h.symm
    exact ⟨l, y, g, p, q, by omega⟩
  · rw [if_neg e]
    obtain ⟨p, q⟩ := of_fine f
    have e2 : ¬ plc k x - plc l y ≤ 0 := by simpa [e] using h.symm
    exact ⟨k, x, f, p, q, by omega⟩
theorem union_fine {k x l y k' x' l' y' : Int} (F : Full k x l y) (G : Full k' x' l' y') :
    ((decide (plc k x ≤ plc l' y') && decide (plc k' x' ≤ plc l y)) = true ∧ ∃ a b c d, Fine a b ∧ Fine c d ∧ impl_RGUnion.f k x l y k' x' l' y' = some (a, b, c, d, true, true) ∧ plc a b = min (plc k x) (plc k' x') ∧ plc c d = max (plc l y) (plc l' y')) ∨
    ((decide (plc k x ≤ plc l' y') && decide (plc k' x' ≤ plc l y)) = false ∧ impl_RGUnion.f k x l y k' x' l' y' = some (0, 0, 0, 0, false, true)) := by
  have f1 := F.lt
  have g1 := G.lt
  have hc : (!decide (0 < cmpC (C.of k x) (C.of l' y')) && decide (cmpC (C.of k' x') (C.of l y) ≤ 0)) = (decide (plc k x ≤ plc l' y') && decide (plc k' x' ≤ plc l y)) := by
    rw [cmp_sgn _ _ _ _ F.lo G.hi, cmp_sgn _ _ _ _ G.lo F.hi, sgn_pos, sgn_le, Bool.eq_iff_iff]
    simp only [Bool.and_eq_true, decide_eq_true_eq, Bool.not_eq_true', decide_eq_false_iff_not]
    omega
  have h1 : ¬ 0 ≤ cmpC (C.of k x) (C.of l y) := by
    have := sgn_ge (plc k x - plc l y)
    rw [cmp_sgn _ _ _ _ F.lo F.hi]
    intro h
    simp [h] at this
    omega
  have h2 : ¬ 0 ≤ cmpC (C.of k' x') (C.of l' y') := by
    have := sgn_ge (plc k' x' - plc l' y')
    rw [cmp_sgn _ _ _ _ G.lo G.hi]
    intro h
    simp [h] at this
    omega
  unfold impl_RGUnion.f
  rw [if_neg h1, if_neg h2, hc]
  cases hq : (decide (plc k x ≤ plc l' y') && decide (plc k' x' ≤ plc l y))
  · exact .inr ⟨rfl, by rw [if_neg (by decide)]⟩
  · obtain ⟨a, b, p1, p2, p3, p4⟩ := lo_fine F.lo G.lo
    obtain ⟨c, d, q1, q2, q3, q4⟩ := hi_fine F.hi G.hi
    exact .inl ⟨rfl, a, b, c, d, p1, q1, by rw [if_pos rfl, p2, p3, q2, q3], p4, q4⟩
theorem hull_fine (n : Nat) (hn : 3 ≤ n) {k x l y k' x' l' y' : Int} (F : Full k x l y) (G : Full k' x' l' y') :
    ∃ a b c d, Full a b c d ∧ spec_RGHull.f n k x l y k' x' l' y' = some (a, b, c, d) ∧ plc a b = min (plc k x) (plc k' x') ∧ plc c d = max (plc l y) (plc l' y') := by
  have f1 := F.lt
  have g1 := G.lt
  obtain ⟨n, rfl⟩ : ∃ j, n = j + 1 := ⟨n - 1, by omega⟩
  have j : ∀ a b, Fine a b → plc a b = min (plc k x) (plc k' x') → ∃ c d, Full a b c d ∧ spec_RGHull.j0 (n + 1) a b l y k' x' l' y' = some (a, b, c, d) ∧ plc c d = max (plc l y) (plc l' y') := by
    intro a b f e
    simp only [spec_RGHull.j0]
    rw [place_fine n (by omega) l' y' G.hi]
    simp only [Option.bind_some]
    rw [place_fine n (by omega) l y F.hi]
    simp only [Option.bind_some]
    by_cases e : plc l' y' > plc l y
    · rw [if_pos e]; exact ⟨_, _, ⟨f, G.hi, by omega⟩, rfl, by omega⟩
    · rw [if_neg e]; exact ⟨_, _, ⟨f, F.hi, by omega⟩, rfl, by omega⟩
  unfold spec_RGHull.f
  rw [place_fine (n + 1) (by omega) k' x' G.lo]
  simp only [Option.bind_some]
  rw [place_fine (n + 1) (by omega) k x F.lo]
  simp only [Option.bind_some]
  by_cases e : plc k' x' < plc k x
  · rw [if_pos e]
    obtain ⟨c, d, h1, h2, h3⟩ := j k' x' G.lo (by omega)
    exact ⟨_, _, c, d, h1, h2, by omega, h3⟩
  · rw [if_neg e]
    obtain ⟨c, d, h1, h2, h3⟩ := j k x F.lo (by omega)
    exact ⟨_, _, c, d, h1, h2, by omega, h3⟩
theorem Pure_FnRGUnion (a b c d e f g h : Int) (ha : I64 a) (hb : I64 b) (hc : I64 c) (hd : I64 d) (he : I64 e) (hf : I64 f) (hg : I64 g) (hh : I64 h) :
    laws_FnRGUnion.f 8 a b c d e f g h = some true := by
  obtain ⟨k, x, l, y, F, e1⟩ := rgFull_full 8 (by omega) a b c d ha hb hc hd
  obtain ⟨k', x', l', y', G, e2⟩ := rgFull_full 8 (by omega) e f g h he hf hg hh
  have f1 := F.lt
  obtain ⟨_, a3, b3, c3, d3, i1, i2, i3, i4, i5⟩ := (union_fine F F).resolve_right (by rintro ⟨h1, _⟩; simp at h1; omega)
  unfold laws_FnRGUnion.f
  rw [e1, e2]
  simp only [Option.bind_some]
  rcases union_fine F G with ⟨t, a2, b2, c2, d2, p1, p2, p3, p4, p5⟩ | ⟨t, p3⟩
  · obtain ⟨a4, b4, c4, d4, q1, q2, q3, q4⟩ := hull_fine 8 (by omega) F G
    rw [p3, i3]
    simp only [Option.bind_some, if_true]
    rw [touch_fine 8 (by omega) F G, t, q2]
    simp only [Option.bind_some, beq_self_eq_true, if_true]
    rw [same_fine 8 (by omega) p1 p2 q1, same_fine 8 (by omega) i1 i2 F]
    simp only [Option.bind_some]
    rw [if_pos (by simp only [Bool.and_eq_true, decide_eq_true_eq]; omega)]
    congr 1
    simp only [Bool.and_eq_true, decide_eq_true_eq]
    omega
  · rw [p3, i3]
    simp only [Option.bind_some, if_true]
    rw [touch_fine 8 (by omega) F G, t]
    simp only [Option.bind_some, beq_self_eq_true, if_true, Bool.false_eq_true, if_false]
    rw [same_fine 8 (by omega) i1 i2 F]
    simp only [Option.bind_some]
    congr 1
    simp only [Bool.and_eq_true, decide_eq_true_eq]
    omega
theorem laws_FnRGUnion.walkU (a b c d e f g h : Int) (w : World) (ha : I64 a) (hb : I64 b) (hc : I64 c) (hd : I64 d) (he : I64 e) (hf : I64 f) (hg : I64 g) (hh : I64 h) :
    Calls Tryd.prog 6 #[.agg #[.int .i64 a, .int .i64 b, .int .i64 c, .int .i64 d], .agg #[.int .i64 e, .int .i64 f, .int .i64 g, .int .i64 h]] w fun e w' => e = .returned (.bool true) ∧ Below w.heap.size w w' := by
  have hp := Pure_FnRGUnion a b c d e f g h ha hb hc hd he hf hg hh
  obtain ⟨k, x, l, y, F, e1⟩ := rgFull_full 8 (by omega) a b c d ha hb hc hd
  obtain ⟨k', x', l', y', G, e2⟩ := rgFull_full 8 (by omega) e f g h he hf hg hh
  rcases union_fine F G with ⟨t, a2, b2, c2, d2, p1, p2, p3, p4, p5⟩ | ⟨t, p3⟩
  · refine laws_FnRGUnion.calls0 8 a b c d e f g h true w rfl (fun p q s t x' y' z' u' e0 e1' e2' e3' h1 h2 => ?_) hp
    rw [e1] at h1
    rw [e2] at h2
    simp only [Option.some.injEq, Prod.mk.injEq] at h1 h2
    obtain ⟨rfl, rfl, rfl, rfl⟩ := h1
    obtain ⟨rfl, rfl, rfl, rfl⟩ := h2
    rw [p3]
    simp
  · refine laws_FnRGUnion.calls1 8 a b c d e f g h true w rfl (fun p q s t x' y' z' u' e0 e1' e2' e3' h1 h2 => ?_) hp
    rw [e1] at h1
    rw [e2] at h2
    simp only [Option.some.injEq, Prod.mk.injEq] at h1 h2
    obtain ⟨rfl, rfl, rfl, rfl⟩ := h1
    obtain ⟨rfl, rfl, rfl, rfl⟩ := h2
    rw [p3]
    simp
end Go.Proofs.YtlcoodjkolponaaDoor.PRU
