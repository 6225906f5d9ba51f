/-
  The order of rows of ranges: compared column by column, by where they begin, then end; what sorting gives. Plain facts. No condition.
-/
import Derived.Test.YtlcoodjkolponaaDoorRSq
import Derived.Sort.LotA
namespace Go.Proofs.YtlcoodjkolponaaDoor.PRR
open Go.RowKit
open Go.Proofs.YtlcoodjkolponaaDoor.PRG (C cmpC cmpK)
set_option linter.unusedVariables false
set_option linter.unusedSimpArgs false

/-- Two lists of whole numbers, compared. -/
def cmpI : List Int → List Int → Int
  | [], [] => 0
  | [], _ :: _ => -1
  | _ :: _, [] => 1
  | x :: a, y :: b => if x < y then -1 else if y < x then 1 else cmpI a b
theorem cmpI_lt {x y : Int} (h : x < y) (a b : List Int) : cmpI (x :: a) (y :: b) = -1 := if_pos h
theorem cmpI_gt {x y : Int} (h : y < x) (a b : List Int) : cmpI (x :: a) (y :: b) = 1 := by
  show (if x < y then (-1 : Int) else if y < x then 1 else cmpI a b) = 1
  rw [if_neg (by omega), if_pos h]
theorem cmpI_same (x : Int) (a b : List Int) : cmpI (x :: a) (x :: b) = cmpI a b := by
  show (if x < x then (-1 : Int) else if x < x then 1 else cmpI a b) = _
  rw [if_neg (by omega), if_neg (by omega)]
theorem cmpI_self : ∀ a, cmpI a a = 0
  | [] => rfl
  | x :: a => by rw [cmpI_same]; exact cmpI_self a
theorem cmpI_eq : ∀ a b, cmpI a b = 0 → a = b
  | [], [], _ => rfl
  | [], _ :: _, h => by simp [cmpI] at h
  | _ :: _, [], h => by simp [cmpI] at h
  | x :: a, y :: b, h => by
    have ih := cmpI_eq a b
    rcases Int.lt_trichotomy x y with g | g | g
    · rw [cmpI_lt g] at h; omega
    · subst g; rw [cmpI_same] at h; rw [ih h]
    · rw [cmpI_gt g] at h; omega
theorem cmpI_range : ∀ a b, cmpI a b = -1 ∨ cmpI a b = 0 ∨ cmpI a b = 1
  | [], [] => by simp [cmpI]
  | [], _ :: _ => by simp [cmpI]
  | _ :: _, [] => by simp [cmpI]
  | x :: a, y :: b => by
    have ih := cmpI_range a b
    rcases Int.lt_trichotomy x y with g | g | g
    · rw [cmpI_lt g]; exact .inl rfl
    · subst g; rw [cmpI_same]; exact ih
    · rw [cmpI_gt g]; exact .inr (.inr rfl)
theorem cmpI_neg : ∀ a b, cmpI b a = - cmpI a b
  | [], [] => by simp [cmpI]
  | [], _ :: _ => by simp [cmpI]
  | _ :: _, [] => by simp [cmpI]
  | x :: a, y :: b => by
    have ih := cmpI_neg a b
    rcases Int.lt_trichotomy x y with g | g | g
    · rw [cmpI_lt g, cmpI_gt g]; rfl
    · subst g; rw [cmpI_same, cmpI_same]; exact ih
    · rw [cmpI_gt g, cmpI_lt g]
theorem cmpI_le : ∀ a b c, cmpI a b ≤ 0 → cmpI b c ≤ 0 → cmpI a c ≤ 0 ∧ (cmpI a c = 0 → cmpI a b = 0 ∧ cmpI b c = 0)
  | [], [], [], _, _ => by simp [cmpI]
  | [], [], _ :: _, _, _ => by simp [cmpI]
  | [], _ :: _, [], _, h => by simp [cmpI] at h
  | [], _ :: _, _ :: _, _, _ => by simp [cmpI]
  | _ :: _, [], _, h, _ => by simp [cmpI] at h
  | _ :: _, _ :: _, [], _, h => by simp [cmpI] at h
  | x :: a, y :: b, z :: c, h1, h2 => by
    have ih := cmpI_le a b c
    rcases Int.lt_trichotomy x y with g | g | g
    · rcases Int.lt_trichotomy y z with k | k | k
      · rw [cmpI_lt (show x < z by omega)]; omega
      · rw [cmpI_lt (show x < z by omega)]; omega
      · rw [cmpI_gt k] at h2; omega
    · subst g
      rw [cmpI_same] at h1 ⊢
      rcases Int.lt_trichotomy x z with k | k | k
      · rw [cmpI_lt k]; omega
      · subst k
        rw [cmpI_same] at h2 ⊢
        rw [cmpI_same]
        exact ih h1 h2
      · rw [cmpI_gt k] at h2; omega
    · rw [cmpI_gt g] at h1; omega
/-- Where the columns of a row begin and end. -/
def keys : List S44 → List Int
  | [] => []
  | x :: a => lo x :: hi x :: keys a
def ltS (a b : List S44) : Bool := cmpI (keys a) (keys b) == -1
theorem swo_ltS : Go.Sort.SWO ltS where
  irrefl := fun x => by unfold ltS; rw [cmpI_self]; rfl
  trans := fun x y z h1 h2 => by
    unfold ltS at *
    rw [beq_iff_eq] at *
    have h := cmpI_le (keys x) (keys y) (keys z) (by omega) (by omega)
    rcases cmpI_range (keys x) (keys z) with e | e | e
    · exact e
    · have := h.2 e; omega
    · omega
  ntrans := fun x y z h1 h2 => by
    unfold ltS at *
    rw [beq_eq_false_iff_ne] at *
    have r1 := cmpI_range (keys x) (keys y)
    have r2 := cmpI_range (keys y) (keys z)
    have n1 := cmpI_neg (keys y) (keys x)
    have n2 := cmpI_neg (keys z) (keys y)
    have n3 := cmpI_neg (keys x) (keys z)
    have h := cmpI_le (keys z) (keys y) (keys x) (by omega) (by omega)
    omega
/-- What MySQLRange.Compare answers. -/
def cmpL : List (C × C) → List (C × C) → Int
  | p :: a, q :: b => if cmpC p.1 q.1 ≠ 0 then cmpC p.1 q.1 else if cmpC p.2 q.2 ≠ 0 then cmpC p.2 q.2 else cmpL a b
  | _, _ => 0
theorem cmpL_keys : ∀ (a b : List S44), (∀ x ∈ a, FullS x) → (∀ x ∈ b, FullS x) → a.length = b.length → cmpL (a.map toC) (b.map toC) = cmpI (keys a) (keys b)
  | [], [], _, _, _ => rfl
  | [], _ :: _, _, _, h => by simp at h
  | _ :: _, [], _, _, h => by simp at h
  | x :: a, y :: b, ha, hb, h => by
    have ih := cmpL_keys a b (fun z h => ha z (List.mem_cons_of_mem _ h)) (fun z h => hb z (List.mem_cons_of_mem _ h)) (by simpa using h)
    have X := ha x List.mem_cons_self
    have Y := hb y List.mem_cons_self
    show (if cmpC (toC x).1 (toC y).1 ≠ 0 then cmpC (toC x).1 (toC y).1 else if cmpC (toC x).2 (toC y).2 ≠ 0 then cmpC (toC x).2 (toC y).2 else cmpL (a.map toC) (b.map toC)) = _
    rw [ih]
    unfold toC
    rw [cmp_sgn _ _ _ _ X.lo Y.lo, cmp_sgn _ _ _ _ X.hi Y.hi]
    show (if sgn (lo x - lo y) ≠ 0 then sgn (lo x - lo y) else if sgn (hi x - hi y) ≠ 0 then sgn (hi x - hi y) else cmpI (keys a) (keys b)) = cmpI (lo x :: hi x :: keys a) (lo y :: hi y :: keys b)
    generalize lo x = p
    generalize lo y = q
    generalize hi x = r
    generalize hi y = s
    unfold sgn
    rcases Int.lt_trichotomy p q with g | g | g
    · rw [if_pos (show p - q < 0 by omega), cmpI_lt g]; simp
    · subst g
      rw [if_neg (show ¬ p - p < 0 by omega), if_neg (show ¬ p - p > 0 by omega), cmpI_same]
      rcases Int.lt_trichotomy r s with k | k | k
      · rw [if_pos (show r - s < 0 by omega), cmpI_lt k]; simp
      · subst k
        rw [if_neg (show ¬ r - r < 0 by omega), if_neg (show ¬ r - r > 0 by omega), cmpI_same]; simp
      · rw [if_neg (show ¬ r - s < 0 by omega), if_pos (show r - s > 0 by omega), cmpI_gt k]; simp
    · rw [if_neg (show ¬ p - q < 0 by omega), if_pos (show p - q > 0 by omega), cmpI_gt g]; simp
theorem allS_keys : ∀ (a b : List S44), a.length = b.length → allS a b = (cmpI (keys a) (keys b) == 0)
  | [], [], _ => rfl
  | [], _ :: _, h => by simp at h
  | _ :: _, [], h => by simp at h
  | x :: a, y :: b, h => by
    have ih := allS_keys a b (by simpa using h)
    show (sameS x y && allS a b) = (cmpI (lo x :: hi x :: keys a) (lo y :: hi y :: keys b) == 0)
    rw [ih]
    unfold sameS
    generalize lo x = p
    generalize lo y = q
    generalize hi x = r
    generalize hi y = s
    rcases Int.lt_trichotomy p q with g | g | g
    · rw [cmpI_lt g, decide_eq_false (by omega)]; rfl
    · subst g
      rw [cmpI_same, decide_eq_true rfl]
      rcases Int.lt_trichotomy r s with k | k | k
      · rw [cmpI_lt k, decide_eq_false (by omega)]; rfl
      · subst k
        rw [cmpI_same, decide_eq_true rfl]; simp
      · rw [cmpI_gt k, decide_eq_false (by omega)]; rfl
    · rw [cmpI_gt g, decide_eq_false (by omega)]; rfl
/-- Rows of n columns, each with values. -/
def Rows (n : Nat) (l : List (List S44)) : Prop := ∀ a ∈ l, a.length = n ∧ ∀ x ∈ a, FullS x
/-- The same rows, in order. -/
structure Sorted (out l : List (List S44)) : Prop where
  perm : out.Perm l
  asc : ∀ i j (hj : j < out.length) (hi : i < j), ltS out[j] (out[i]'(by omega)) = false
theorem Sorted.count {out l : List (List S44)} (h : Sorted out l) (p : List S44 → Bool) : out.countP p = l.countP p := h.perm.countP_eq p
theorem Rows.out {n : Nat} {out l : List (List S44)} (h : Sorted out l) (hl : Rows n l) : Rows n out := fun a ha => hl a (h.perm.mem_iff.1 ha)
/-- Two neighbours. -/
theorem Sorted.step {n : Nat} {out l : List (List S44)} (h : Sorted out l) (hl : Rows n l) (i : Nat) (hi : i + 1 < out.length) :
    cmpL (out[i].map toC) (out[i + 1].map toC) ≤ 0 ∧ cmpL (out[i + 1].map toC) (out[i].map toC) = - cmpL (out[i].map toC) (out[i + 1].map toC) ∧
      (cmpL (out[i].map toC) (out[i + 1].map toC) = -1 ∨ cmpL (out[i].map toC) (out[i + 1].map toC) = 0) ∧
      (cmpL (out[i].map toC) (out[i + 1].map toC) == 0) = allS out[i + 1] out[i] := by
  have hr := Rows.out h hl
  have A := hr out[i] (List.getElem_mem (by omega))
  have B := hr out[i + 1] (List.getElem_mem hi)
  have e := h.asc i (i + 1) hi (by omega)
  rw [cmpL_keys _ _ A.2 B.2 (by rw [A.1, B.1]), cmpL_keys _ _ B.2 A.2 (by rw [A.1, B.1]), allS_keys _ _ (by rw [A.1, B.1])]
  unfold ltS at e
  rw [beq_eq_false_iff_ne] at e
  have n1 := cmpI_neg (keys out[i]) (keys out[i + 1])
  have r1 := cmpI_range (keys out[i]) (keys out[i + 1])
  refine ⟨by omega, n1, by omega, ?_⟩
  rw [n1, Bool.eq_iff_iff]
  simp only [beq_iff_eq]
  omega
theorem sorted_of {d d' : Array (List S44)} (hp : Go.Sort.PermIn 0 d.size d d') (hs : Go.Sort.SortedIn ltS 0 d.size d') : Sorted d'.toList d.toList := by
  obtain ⟨h1, _, h3⟩ := hp
  refine ⟨?_, fun i j hj hi => ?_⟩
  · rw [show d'.extract 0 d.size = d' by rw [← h1]; simp, show d.extract 0 d.size = d by simp] at h3
    exact h3
  · have hj' : j < d'.size := by simpa using hj
    have h := hs i j (Nat.zero_le _) hi (by omega)
    rw [getElem!_pos d' j hj', getElem!_pos d' i (by omega)] at h
    simpa using h
end Go.Proofs.YtlcoodjkolponaaDoor.PRR
