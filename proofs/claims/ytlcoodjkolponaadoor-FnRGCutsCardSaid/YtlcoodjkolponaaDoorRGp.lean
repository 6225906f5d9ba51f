/-
  What laws.FnRGCuts computes is true: the plain law.
-/
import Derived.Test.YtlcoodjkolponaaDoorLRGCutsd
namespace Go.Proofs.YtlcoodjkolponaaDoor.PRG
open Go.RowKit Go.Proofs.YtlcoodjkolponaaDoorW.PrintWords Go.Proofs.YtlcoodjkolponaaDoorW.PrintLast Go.Proofs.YtlcoodjkolponaaDoorW.PrintMore
set_option linter.unusedVariables false
set_option linter.unusedSimpArgs false

/-- A cut as the statement draws it. -/
def Fine (x : S23) : Prop := 0 ≤ x.f0 ∧ x.f0 ≤ 4 ∧ -20 ≤ x.f1 ∧ x.f1 ≤ 20 ∧ (x.f0 ≠ 2 → x.f0 ≠ 3 → x.f1 = 0)
/-- The place of a cut. -/
def plc (x : S23) : Int := if x.f0 = 0 ∨ x.f0 = 1 then x.f0 else if x.f0 = 2 ∨ x.f0 = 3 then 2 * (x.f1 + 1001) + x.f0 else 10000

theorem w64 {x : Int} (h0 : -9223372036854775808 ≤ x) (h1 : x ≤ 9223372036854775807) : wrap64 x = x := by
  unfold wrap64; omega

theorem rgCut_fine (a b : Int) (ha : -9223372036854775808 ≤ a) (ha' : a ≤ 9223372036854775807) (hb : -9223372036854775808 ≤ b) (hb' : b ≤ 9223372036854775807) :
    ∃ x : S23, Fine x ∧ laws_rgCut.f a b = some (x.f0, x.f1) := by
  have t5 : ∀ x : Int, -4 ≤ Int.tmod x 5 ∧ Int.tmod x 5 ≤ 4 := fun x => by
    have h := Int.natAbs_tmod x 5
    have h2 : (Int.tmod x 5).natAbs < 5 := by rw [h]; exact Nat.mod_lt _ (by decide)
    omega
  have t41 : ∀ x : Int, -40 ≤ Int.tmod x 41 ∧ Int.tmod x 41 ≤ 40 := fun x => by
    have h := Int.natAbs_tmod x 41
    have h2 : (Int.tmod x 41).natAbs < 41 := by rw [h]; exact Nat.mod_lt _ (by decide)
    omega
  have a1 := t5 a
  have b1 := t41 b
  have e1 : wrap64 (Int.tmod a 5 + 5) = Int.tmod a 5 + 5 := w64 (by omega) (by omega)
  have e2 : wrap64 (Int.tmod b 41 + 41) = Int.tmod b 41 + 41 := w64 (by omega) (by omega)
  have a2 := t5 (Int.tmod a 5 + 5)
  have b2 := t41 (Int.tmod b 41 + 41)
  have a3 : 0 ≤ Int.tmod (Int.tmod a 5 + 5) 5 := Int.tmod_nonneg _ (by omega)
  have b3 : 0 ≤ Int.tmod (Int.tmod b 41 + 41) 41 := Int.tmod_nonneg _ (by omega)
  unfold laws_rgCut.f
  rw [e1, e2]
  generalize Int.tmod (Int.tmod a 5 + 5) 5 = u at *
  generalize Int.tmod (Int.tmod b 41 + 41) 41 = v at *
  rw [w64 (x := v - 20) (by omega) (by omega)]
  by_cases h2 : u = 2
  · rw [if_pos h2]; exact ⟨⟨_, _⟩, ⟨by dsimp only; omega, by dsimp only; omega, by dsimp only; omega, by dsimp only; omega, by dsimp only; omega⟩, rfl⟩
  · rw [if_neg h2]
    by_cases h3 : u = 3
    · rw [if_pos h3]; exact ⟨⟨_, _⟩, ⟨by dsimp only; omega, by dsimp only; omega, by dsimp only; omega, by dsimp only; omega, by dsimp only; omega⟩, rfl⟩
    · rw [if_neg h3]; exact ⟨⟨_, _⟩, ⟨by dsimp only; omega, by dsimp only; omega, by dsimp only; omega, by dsimp only; omega, by dsimp only; omega⟩, rfl⟩

theorem place_fine (k : Nat) (hk : 2 ≤ k) (x : S23) (hx : Fine x) : spec_RGPlace.f k x.f0 x.f1 = some (plc x) := by
  obtain ⟨k, rfl⟩ : ∃ j, k = j + 2 := ⟨k - 2, by omega⟩
  obtain ⟨x0, x1⟩ := x
  obtain ⟨h0, h1, h2, h3, h4⟩ := hx
  dsimp only at h0 h1 h2 h3 h4
  unfold spec_RGPlace.f plc
  have : x0 = 0 ∨ x0 = 1 ∨ x0 = 2 ∨ x0 = 3 ∨ x0 = 4 := by omega
  rcases this with rfl | rfl | rfl | rfl | rfl <;> simp [spec_RGPlace.j0, spec_RGPlace.j1]
  all_goals (rw [w64 (x := x1 + 1001) (by omega) (by omega), w64 (x := 2 * (x1 + 1001)) (by omega) (by omega), w64 (by omega) (by omega)])

theorem plc_lt (x : S23) (hx : Fine x) : 0 ≤ plc x ∧ plc x ≤ 10000 := by
  obtain ⟨h0, h1, h2, h3, h4⟩ := hx
  unfold plc; split
  · omega
  · split <;> omega

def sgn (x : Int) : Int := if x < 0 then -1 else if x > 0 then 1 else 0
theorem sign_f (x : Int) : laws_sign.f x = some (sgn x) := by
  unfold laws_sign.f sgn; split; rfl; split <;> rfl

theorem kindcases (x : S23) (hx : Fine x) : (∃ c : C, cutOfS x = c ∧ c.kind = x.f0 ∧ c.key = x.f1) := by
  obtain ⟨x0, x1⟩ := x
  obtain ⟨h0, h1, h2, h3, h4⟩ := hx
  dsimp only at h0 h1 h2 h3 h4
  refine ⟨_, rfl, ?_⟩
  have : x0 = 0 ∨ x0 = 1 ∨ x0 = 2 ∨ x0 = 3 ∨ x0 = 4 := by omega
  rcases this with rfl | rfl | rfl | rfl | rfl <;> simp [cutOfS, C.of, C.kind, C.key] <;> exact (h4 (by omega) (by omega)).symm

theorem cmp_sgn (x y : S23) (hx : Fine x) (hy : Fine y) : cmpC (C.of x.f0 x.f1) (C.of y.f0 y.f1) = sgn (plc x - plc y) := by
  obtain ⟨x0, x1⟩ := x
  obtain ⟨y0, y1⟩ := y
  obtain ⟨h0, h1, h2, h3, h4⟩ := hx
  obtain ⟨g0, g1, g2, g3, g4⟩ := hy
  dsimp only at h0 h1 h2 h3 h4 g0 g1 g2 g3 g4
  have hx : x0 = 0 ∨ x0 = 1 ∨ x0 = 2 ∨ x0 = 3 ∨ x0 = 4 := by omega
  have hy : y0 = 0 ∨ y0 = 1 ∨ y0 = 2 ∨ y0 = 3 ∨ y0 = 4 := by omega
  rcases hx with rfl | rfl | rfl | rfl | rfl <;> rcases hy with rfl | rfl | rfl | rfl | rfl <;> simp [C.of, cmpC, plc, sgn, cmpK] <;> (repeat' split) <;> omega

theorem sgn_sgn (x : Int) : sgn (sgn x) = sgn x := by unfold sgn; repeat' split
                                                      all_goals omega

/-- A list of fine cuts: what the fold picks. -/
theorem plc_inj (x y : S23) (hx : Fine x) (hy : Fine y) (h : plc x = plc y) : x = y := by
  obtain ⟨x0, x1⟩ := x
  obtain ⟨y0, y1⟩ := y
  obtain ⟨h0, h1, h2, h3, h4⟩ := hx
  obtain ⟨g0, g1, g2, g3, g4⟩ := hy
  dsimp only at h0 h1 h2 h3 h4 g0 g1 g2 g3 g4
  unfold plc at h; dsimp only at h
  have e0 : x0 = y0 := by split at h <;> split at h <;> (try split at h) <;> (try split at h) <;> omega
  have e1 : x1 = y1 := by
    subst e0
    by_cases q : x0 = 2 ∨ x0 = 3
    · have : ¬ (x0 = 0 ∨ x0 = 1) := by omega
      rw [if_neg this, if_neg this, if_pos q, if_pos q] at h; omega
    · rw [h4 (by omega) (by omega), g4 (by omega) (by omega)]
  rw [e0, e1]

/-- One pick, over the statement's own cuts. -/
def pickS (s : Int) (m x : S23) : S23 := if sgn (plc m - plc x) = s then x else m
theorem pickS_fine {s m x} (hm : Fine m) (hx : Fine x) : Fine (pickS s m x) := by unfold pickS; split <;> assumption
theorem pick_cut (s : Int) (m x : S23) (hm : Fine m) (hx : Fine x) : pickC s (cutOfS m) (cutOfS x) = cutOfS (pickS s m x) := by
  unfold pickC pickS
  rw [show cmpC (cutOfS m) (cutOfS x) = sgn (plc m - plc x) from cmp_sgn m x hm hx]
  split <;> rfl
theorem cut_kk (x : S23) (hx : Fine x) : (cutOfS x).kind = x.f0 ∧ (cutOfS x).key = x.f1 := by
  obtain ⟨c, rfl, h⟩ := kindcases x hx; exact h

theorem pickS_up (m x : S23) : pickS (-1) m x = if plc m < plc x then x else m := by
  unfold pickS sgn; repeat' split
  all_goals first | rfl | omega
theorem pickS_down (m x : S23) : pickS 1 m x = if plc x < plc m then x else m := by
  unfold pickS sgn; repeat' split
  all_goals first | rfl | omega

theorem max3 (x y z : S23) (hx : Fine x) (hy : Fine y) (hz : Fine z) : impl_RGMax.f [x, y, z] = some ((pickS (-1) (pickS (-1) x y) z).f0, (pickS (-1) (pickS (-1) x y) z).f1, true) := by
  have e : mostC (-1) ([x, y, z].map cutOfS) = cutOfS (pickS (-1) (pickS (-1) x y) z) := by
    simp only [List.map_cons, List.map_nil, mostC, List.foldl_cons, List.foldl_nil]
    rw [pick_cut _ _ _ hx hy, pick_cut _ _ _ (pickS_fine hx hy) hz]
  unfold impl_RGMax.f
  rw [if_pos (by simp), e]
  have q := cut_kk _ (pickS_fine (s := -1) (pickS_fine (s := -1) hx hy) hz)
  rw [q.1, q.2]
theorem min3 (x y z : S23) (hx : Fine x) (hy : Fine y) (hz : Fine z) : impl_RGMin.f [x, y, z] = some ((pickS 1 (pickS 1 x y) z).f0, (pickS 1 (pickS 1 x y) z).f1, true) := by
  have e : mostC 1 ([x, y, z].map cutOfS) = cutOfS (pickS 1 (pickS 1 x y) z) := by
    simp only [List.map_cons, List.map_nil, mostC, List.foldl_cons, List.foldl_nil]
    rw [pick_cut _ _ _ hx hy, pick_cut _ _ _ (pickS_fine hx hy) hz]
  unfold impl_RGMin.f
  rw [if_pos (by simp), e]
  have q := cut_kk _ (pickS_fine (s := 1) (pickS_fine (s := 1) hx hy) hz)
  rw [q.1, q.2]

/-- The inner loop: all comparisons agree. -/
theorem step1 (xs : List S23) (i j : Int) (hi : 0 ≤ i) (hi' : i < xs.length) (hj : 0 ≤ j) (hj' : j < xs.length) (hj3 : j < 3) (F : ∀ i : Int, 0 ≤ i → i < (xs.length : Int) → Fine (rd_T23 xs i)) (k : Nat) (hk : 2 ≤ k) (p q r s : Int) :
    laws_FnRGCuts.l1 (k + 1) xs i j p q r s = laws_FnRGCuts.l1 k xs i (wrap64 (j + 1)) p q r s := by
  conv => lhs; unfold laws_FnRGCuts.l1
  have f1 := F i hi hi'
  have f2 := F j hj hj'
  have b1 := plc_lt _ f1
  have b2 := plc_lt _ f2
  rw [if_pos hj3, if_pos hi, if_pos hi', if_pos hj, if_pos hj']
  simp only [impl_RGCompare.f, Option.bind_some, if_true, sign_f]
  rw [place_fine k hk _ f1]
  simp only [Option.bind_some]
  rw [place_fine k hk _ f2]
  simp only [Option.bind_some]
  rw [w64 (x := plc _ - plc _) (by omega) (by omega), cmp_sgn _ _ f1 f2, sgn_sgn, if_pos rfl]

theorem inner (xs : List S23) (h3 : xs.length = 3) (F : ∀ i : Int, 0 ≤ i → i < (xs.length : Int) → Fine (rd_T23 xs i)) (i : Int) (hi : 0 ≤ i) (hi' : i < 3) (k : Nat) (hk : 2 ≤ k) (p q : S23) (hp : Fine p) (hq : Fine q) :
    laws_FnRGCuts.l1 (k + 5) xs i 0 p.f0 p.f1 q.f0 q.f1 =
      laws_FnRGCuts.l0 k xs (i + 1) (pickS (-1) p (rd_T23 xs i)).f0 (pickS (-1) p (rd_T23 xs i)).f1 (pickS 1 q (rd_T23 xs i)).f0 (pickS 1 q (rd_T23 xs i)).f1 := by
  have l : (xs.length : Int) = 3 := by omega
  rw [step1 xs i 0 hi (by omega) (by omega) (by omega) (by omega) F (k + 4) (by omega), w64 (x := (0 : Int) + 1) (by omega) (by omega),
    step1 xs i (0 + 1) hi (by omega) (by omega) (by omega) (by omega) F (k + 3) (by omega), w64 (x := (0 : Int) + 1 + 1) (by omega) (by omega),
    step1 xs i (0 + 1 + 1) hi (by omega) (by omega) (by omega) (by omega) F (k + 2) (by omega), w64 (x := (0 : Int) + 1 + 1 + 1) (by omega) (by omega)]
  have f1 := F i hi (by omega)
  have tail : ∀ p : S23, laws_FnRGCuts.j2 (k + 1) xs i p.f0 p.f1 q.f0 q.f1 = laws_FnRGCuts.l0 k xs (i + 1) p.f0 p.f1 (pickS 1 q (rd_T23 xs i)).f0 (pickS 1 q (rd_T23 xs i)).f1 := by
    intro p
    conv => lhs; unfold laws_FnRGCuts.j2
    rw [if_pos hi, if_pos (by omega), place_fine k (by omega) _ f1]
    simp only [Option.bind_some]
    rw [place_fine k (by omega) _ hq]
    simp only [Option.bind_some]
    rw [w64 (x := i + 1) (by omega) (by omega), pickS_down]
    split <;> rfl
  conv => lhs; unfold laws_FnRGCuts.l1
  rw [if_neg (by omega), if_pos hi, if_pos (by omega), place_fine (k + 1) (by omega) _ f1]
  simp only [Option.bind_some]
  rw [place_fine (k + 1) (by omega) _ hp]
  simp only [Option.bind_some]
  rw [tail p, tail (rd_T23 xs i), pickS_up]
  by_cases c : plc p < plc (rd_T23 xs i)
  · rw [if_pos c, if_pos (show plc (rd_T23 xs i) > plc p from c)]
  · rw [if_neg c, if_neg (show ¬ plc (rd_T23 xs i) > plc p from c)]

theorem outer (xs : List S23) (h3 : xs.length = 3) (F : ∀ i : Int, 0 ≤ i → i < (xs.length : Int) → Fine (rd_T23 xs i)) (i : Int) (hi : 0 ≤ i) (hi' : i < 3) (k : Nat) (hk : 2 ≤ k) (p q : S23) (hp : Fine p) (hq : Fine q) :
    laws_FnRGCuts.l0 (k + 6) xs i p.f0 p.f1 q.f0 q.f1 =
      laws_FnRGCuts.l0 k xs (i + 1) (pickS (-1) p (rd_T23 xs i)).f0 (pickS (-1) p (rd_T23 xs i)).f1 (pickS 1 q (rd_T23 xs i)).f0 (pickS 1 q (rd_T23 xs i)).f1 := by
  rw [← inner xs h3 F i hi hi' k hk p q hp hq]
  conv => lhs; unfold laws_FnRGCuts.l0
  rw [if_pos hi']

theorem pickS_self (s : Int) (hs : s ≠ 0) (x : S23) : pickS s x x = x := by
  unfold pickS; split <;> rfl

theorem Pure_FnRGCuts (a b c d e f : Int) (ha : -9223372036854775808 ≤ a ∧ a ≤ 9223372036854775807) (hb : -9223372036854775808 ≤ b ∧ b ≤ 9223372036854775807)
    (hc : -9223372036854775808 ≤ c ∧ c ≤ 9223372036854775807) (hd : -9223372036854775808 ≤ d ∧ d ≤ 9223372036854775807)
    (he : -9223372036854775808 ≤ e ∧ e ≤ 9223372036854775807) (hf : -9223372036854775808 ≤ f ∧ f ≤ 9223372036854775807) :
    laws_FnRGCuts.f 23 a b c d e f = some true := by
  obtain ⟨x, fx, hx⟩ := rgCut_fine a b ha.1 ha.2 hb.1 hb.2
  obtain ⟨y, fy, hy⟩ := rgCut_fine c d hc.1 hc.2 hd.1 hd.2
  obtain ⟨z, fz, hz⟩ := rgCut_fine e f he.1 he.2 hf.1 hf.2
  unfold laws_FnRGCuts.f
  rw [hx, hy, hz]
  simp only [Option.bind_some]
  rw [show (⟨x.f0, x.f1⟩ : S23) = x from rfl, show (⟨y.f0, y.f1⟩ : S23) = y from rfl, show (⟨z.f0, z.f1⟩ : S23) = z from rfl]
  rw [if_pos (by simp)]
  have r0 : rd_T23 [x, y, z] 0 = x := rfl
  have r1 : rd_T23 [x, y, z] (0 + 1) = y := rfl
  have r2 : rd_T23 [x, y, z] (0 + 1 + 1) = z := rfl
  have F : ∀ i : Int, 0 ≤ i → i < ([x, y, z].length : Int) → Fine (rd_T23 [x, y, z] i) := by
    intro i h0 h1
    have h1' : i < 3 := h1
    have : i = 0 ∨ i = 1 ∨ i = 2 := by omega
    rcases this with rfl | rfl | rfl
    · exact fx
    · exact fy
    · exact fz
  rw [r0, outer [x, y, z] rfl F 0 (by omega) (by omega) 17 (by omega) x x fx fx, r0, pickS_self _ (by decide), pickS_self _ (by decide),
    outer [x, y, z] rfl F (0 + 1) (by omega) (by omega) 11 (by omega) x x fx fx, r1,
    outer [x, y, z] rfl F (0 + 1 + 1) (by omega) (by omega) 5 (by omega) _ _ (pickS_fine fx fy) (pickS_fine fx fy), r2]
  conv => lhs; unfold laws_FnRGCuts.l0
  rw [if_neg (by omega), max3 x y z fx fy fz, min3 x y z fx fy fz]
  simp
end Go.Proofs.YtlcoodjkolponaaDoor.PRG
