/-
  spec.LKMatch answers whether the pattern's nodes match the text: plain law. Condition: the ten characters of the law, at most 100 of each.
-/
import Derived.Test.YthicaehcoingeaaDoorPLK2
import Derived.Test.YthicaehcoingeaaDoorLKm
import Derived.Test.YthicaehcoingeaaDoorLKr
namespace Go.Proofs.YthicaehcoingeaaDoor.PLK
open Go.RowKit Go.Proofs.YthicaehcoingeaaDoorW.PrintWords Go.Proofs.YthicaehcoingeaaDoorW.PrintLast Go.Proofs.YthicaehcoingeaaDoorW.PrintMore
set_option linter.unusedVariables false

/-- the weight of a character: folded, or itself -/
def gF (fold : Bool) (c : Int) : Int := if fold = true then (if c ≥ 65 then (if c ≤ 90 then c + 32 else c) else c) else c
theorem gF_pos (fold : Bool) (c : Int) (h : okR c = true) : 0 ≤ gF fold c ∧ gF fold c ≤ 29483 := by
  unfold gF
  rcases okR_cases h with rfl | rfl | rfl | rfl | rfl | rfl | rfl | rfl | rfl | rfl <;> cases fold <;> decide
theorem fold_ok (fold : Bool) (c : Int) (h : okR c = true) : spec_lkFold.f fold c = some (gF fold c) := by
  unfold spec_lkFold.f gF
  rcases okR_cases h with rfl | rfl | rfl | rfl | rfl | rfl | rfl | rfl | rfl | rfl <;> cases fold <;> decide +kernel
/-- what the reference answers -/
def want (fold : Bool) (p s : List Int) : Bool × Bool := match nodes (gF fold) p with
  | none => (false, false)
  | some N => (mt (gF fold) N s, true)
theorem LKf_up {k k' : Nat} {x0 x1 x2 x3 r} (hk : k ≤ k') (h : spec_LKMatch.f k x0 x1 x2 x3 = some r) : spec_LKMatch.f k' x0 x1 x2 x3 = some r := by
  obtain ⟨d, rfl⟩ : ∃ d, k' = k + d := ⟨k' - k, by omega⟩
  clear hk
  induction d with
  | zero => exact h
  | succ d ih => exact (spec_LKMatch.mono_l (k + d)).1 _ _ _ _ r ih
theorem rd_zero (c : Int) (t : List Int) : rd (c :: t) 0 = c := rfl
theorem j1_ok (fold : Bool) (c : Int) (t s : List Int) (hc : okR c = true) (hs : s.all okR = true) (k : Nat)
    (ih1 : spec_LKMatch.f k fold t 92 [] = some (want fold t [])) (ih2 : ∀ d u, s = d :: u → spec_LKMatch.f k fold t 92 u = some (want fold t u)) :
    spec_LKMatch.j1 (k + 2) fold (c :: t) 92 s = some (match nodes (gF fold) t with
      | none => (false, false)
      | some N => (mt (gF fold) (some (gF fold c) :: N) s, true)) := by
  have hw := (gF_pos fold c hc).1
  have w1 : want fold t [] = (match nodes (gF fold) t with | none => (false, false) | some N => (mt (gF fold) N [], true)) := rfl
  show (if ((s.length : Int) = 0) then _ else _) = _
  cases s with
  | nil =>
    rw [if_pos (by simp)]
    rw [spec_LKMatch.j2, if_pos rfl, if_pos (by simp only [List.length_cons]; omega), show (c :: t).drop 1 = t from rfl, ih1, w1]
    cases nodes (gF fold) t with
    | none => rfl
    | some N => rfl
  | cons d u =>
    have hd : okR d = true := by simp only [List.all_cons, Bool.and_eq_true] at hs; exact hs.1
    rw [if_neg (by simp only [List.length_cons]; omega), if_pos (by simp only [List.length_cons]; omega), rd_zero, fold_ok fold c hc, Option.bind_some, if_pos (by simp only [List.length_cons]; omega), rd_zero, fold_ok fold d hd, Option.bind_some]
    have hmt : ∀ N, mt (gF fold) (some (gF fold c) :: N) (d :: u) = ((gF fold d == gF fold c) && mt (gF fold) N u) := by
      intro N
      show ((decide (gF fold c < 0) || gF fold d == gF fold c) && mt (gF fold) N u) = _
      rw [decide_eq_false (by omega), Bool.false_or]
    by_cases he : gF fold c = gF fold d
    · have hb : (gF fold c != gF fold d) = false := by simp [he]
      rw [hb]
      rw [spec_LKMatch.j2, if_neg (by decide), if_pos (by simp only [List.length_cons]; omega), if_pos (by simp only [List.length_cons]; omega), show (c :: t).drop 1 = t from rfl, show (d :: u).drop 1 = u from rfl, ih2 d u rfl, Option.bind_some]
      unfold want
      cases nodes (gF fold) t with
      | none => rfl
      | some N =>
        simp only [hmt]
        rw [he]
        simp
    · have hb : (gF fold c != gF fold d) = true := by simp [he]
      rw [hb]
      rw [spec_LKMatch.j2, if_pos rfl, if_pos (by simp only [List.length_cons]; omega), show (c :: t).drop 1 = t from rfl, ih1, w1]
      cases nodes (gF fold) t with
      | none => rfl
      | some N =>
        simp only [hmt, Option.bind_some]
        have hb2 : (gF fold d == gF fold c) = false := by simp; exact fun h => he h.symm
        rw [hb2, Bool.false_and]
theorem l0_ok (fold : Bool) (t s : List Int) (hl : s.length ≤ 100) (k : Nat) (ih : ∀ i, i ≤ s.length → spec_LKMatch.f k fold t 92 (s.drop i) = some (want fold t (s.drop i))) :
    ∀ (d i : Nat), i + d = s.length + 1 → ∀ k', k + d + 1 ≤ k' → spec_LKMatch.l0 k' fold (37 :: t) 92 s (i : Int) = some (match nodes (gF fold) t with
      | none => if d = 0 then (false, true) else (false, false)
      | some N => ((List.range' i d).any fun j => mt (gF fold) N (s.drop j), true)) := by
  intro d
  induction d with
  | zero =>
    intro i hi k' hk
    obtain ⟨k', rfl⟩ : ∃ z, k' = z + 1 := ⟨k' - 1, by omega⟩
    show (if (i : Int) ≤ (s.length : Int) then _ else _) = _
    rw [if_neg (by omega)]
    cases nodes (gF fold) t with
    | none => rfl
    | some N => rfl
  | succ d ihd =>
    intro i hi k' hk
    obtain ⟨k', rfl⟩ : ∃ z, k' = z + 1 := ⟨k' - 1, by omega⟩
    show (if (i : Int) ≤ (s.length : Int) then (if 1 ≤ (((37 :: t : List Int).length : Nat) : Int) then (if 0 ≤ (i : Int) then ((spec_LKMatch.f k' fold ((37 :: t : List Int).drop 1) 92 (s.drop (i : Int).toNat)).bind fun bt122 => (if bt122.1 = true then (some (bt122.1, bt122.2)) else (if bt122.2 = true then (spec_LKMatch.l0 k' fold (37 :: t) 92 s (wrap64 ((i : Int) + 1))) else (some (bt122.1, bt122.2))))) else none) else none) else _) = _
    rw [if_pos (by omega), if_pos (by simp only [List.length_cons]; omega), if_pos (by omega), Int.toNat_natCast, show (37 :: t : List Int).drop 1 = t from rfl, LKf_up (k := k) (by omega) (ih i (by omega)), Option.bind_some]
    have hw : wrap64 ((i : Int) + 1) = ((i + 1 : Nat) : Int) := by unfold wrap64; omega
    unfold want
    have hd := ihd (i + 1) (by omega) k' (by omega)
    cases hN : nodes (gF fold) t with
    | none =>
      simp only
      rw [if_neg (by decide), if_neg (by decide)]
      simp
    | some N =>
      rw [hN] at hd
      simp only at hd ⊢
      rw [List.range'_succ, List.any_cons]
      by_cases hm : mt (gF fold) N (s.drop i) = true
      · rw [if_pos hm, hm, Bool.true_or]
      · rw [if_neg hm, if_pos trivial, hw, hd]
        rw [Bool.not_eq_true] at hm
        rw [hm, Bool.false_or]
theorem spec_ok (fold : Bool) : ∀ (n : Nat) (p s : List Int), p.length ≤ n → p.all okR = true → s.all okR = true → s.length ≤ 100 → ∃ k, spec_LKMatch.f k fold p 92 s = some (want fold p s)
  | _, [], s, _, _, _, _ => by
    refine ⟨1, ?_⟩
    show (if ((([] : List Int).length : Nat) : Int) = 0 then some (((s.length : Int) == 0), true) else _) = _
    rw [if_pos (by simp)]
    cases s with
    | nil => rfl
    | cons d u =>
      have : (((d :: u).length : Int) == 0) = false := by simp; omega
      rw [this]; rfl
  | 0, c :: t, s, hn, _, _, _ => by simp at hn
  | n + 1, c :: t, s, hn, hp, hs, hl => by
    simp only [List.length_cons] at hn
    have hp2 : okR c = true ∧ t.all okR = true := by simpa using hp
    -- a common fuel for a shorter pattern at all ends of the text
    have all : ∀ t' : List Int, t'.length ≤ n → t'.all okR = true → ∃ k, (∀ i, i ≤ s.length → spec_LKMatch.f k fold t' 92 (s.drop i) = some (want fold t' (s.drop i))) ∧ spec_LKMatch.f k fold t' 92 [] = some (want fold t' []) := by
      intro t' h1 h2
      have go : ∀ m, m ≤ s.length + 1 → ∃ k, ∀ i, i < m → spec_LKMatch.f k fold t' 92 (s.drop i) = some (want fold t' (s.drop i)) := by
        intro m
        induction m with
        | zero => exact fun _ => ⟨0, fun i hi => absurd hi (by omega)⟩
        | succ m ihm =>
          intro hm
          obtain ⟨k1, hk1⟩ := ihm (by omega)
          obtain ⟨k2, hk2⟩ := spec_ok fold n t' (s.drop m) h1 h2 (List.all_eq_true.2 fun x hx => List.all_eq_true.1 hs x (List.mem_of_mem_drop hx)) (by rw [List.length_drop]; omega)
          refine ⟨k1 + k2, fun i hi => ?_⟩
          rcases Nat.lt_or_ge i m with h | h
          · exact LKf_up (by omega) (hk1 i h)
          · obtain rfl : i = m := by omega
            exact LKf_up (by omega) hk2
      obtain ⟨k, hk⟩ := go (s.length + 1) (Nat.le_refl _)
      refine ⟨k, fun i hi => hk i (by omega), ?_⟩
      have := hk s.length (by omega)
      rwa [List.drop_eq_nil_of_le (Nat.le_refl _)] at this
    have cons : ∀ k t', (∀ i, i ≤ s.length → spec_LKMatch.f k fold t' 92 (s.drop i) = some (want fold t' (s.drop i))) → ∀ d u, s = d :: u → spec_LKMatch.f k fold t' 92 u = some (want fold t' u) := by
      rintro k t' h d u rfl
      exact h 1 (by simp)
    by_cases h92 : c = 92
    · subst h92
      cases t with
      | nil =>
        refine ⟨1, ?_⟩
        show (if ((([92] : List Int).length : Nat) : Int) = 0 then _ else (if 0 < ((([92] : List Int).length : Nat) : Int) then (if (rd [92] 0) = 92 then (if ((([92] : List Int).length : Nat) : Int) = 1 then some (false, false) else _) else _) else none)) = _
        rw [if_neg (by simp), if_pos (by simp), rd_zero, if_pos rfl, if_pos (by simp)]
        rfl
      | cons d t =>
        have hp3 : okR d = true ∧ t.all okR = true := by simpa using hp2.2
        obtain ⟨k, h1, h2⟩ := all t (by simp at hn; omega) hp3.2
        refine ⟨k + 3, ?_⟩
        show (if (((92 :: d :: t : List Int).length : Nat) : Int) = 0 then _ else (if 0 < (((92 :: d :: t : List Int).length : Nat) : Int) then (if (rd (92 :: d :: t) 0) = 92 then (if (((92 :: d :: t : List Int).length : Nat) : Int) = 1 then some (false, false) else (if 1 ≤ (((92 :: d :: t : List Int).length : Nat) : Int) then (spec_LKMatch.j1 (k + 2) fold ((92 :: d :: t : List Int).drop 1) 92 s) else none)) else _) else none)) = _
        rw [if_neg (by simp only [List.length_cons]; omega), if_pos (by simp only [List.length_cons]; omega), rd_zero, if_pos rfl, if_neg (by simp only [List.length_cons]; omega), if_pos (by simp only [List.length_cons]; omega), show (92 :: d :: t : List Int).drop 1 = d :: t from rfl, j1_ok fold d t s hp3.1 hs k h2 (cons k t h1)]
        unfold want
        rw [nodes_esc]
        cases nodes (gF fold) t <;> rfl
    · obtain ⟨k, h1, h2⟩ := all t (by omega) hp2.2
      have hnod := nodes_cons (gF fold) c t h92
      by_cases h37 : c = 37
      · subst h37
        refine ⟨k + s.length + 1 + 2, ?_⟩
        show (if (((37 :: t : List Int).length : Nat) : Int) = 0 then _ else (if 0 < (((37 :: t : List Int).length : Nat) : Int) then (if (rd (37 :: t) 0) = 92 then _ else (if (rd (37 :: t) 0) = 37 then (spec_LKMatch.l0 (k + s.length + 1 + 1) fold (37 :: t) 92 s 0) else _)) else none)) = _
        rw [if_neg (by simp only [List.length_cons]; omega), if_pos (by simp only [List.length_cons]; omega), rd_zero, if_neg (by decide), if_pos rfl]
        have := l0_ok fold t s hl k h1 (s.length + 1) 0 (by omega) (k + s.length + 1 + 1) (by omega)
        rw [show ((0 : Nat) : Int) = 0 from rfl] at this
        rw [this]
        unfold want
        rw [hnod]
        cases nodes (gF fold) t with
        | none => simp
        | some N =>
          show some _ = some (mt (gF fold) (nd (gF fold) 37 :: N) s, true)
          rw [show nd (gF fold) 37 = none from rfl, show mt (gF fold) (none :: N) s = (List.range (s.length + 1)).any fun i => mt (gF fold) N (s.drop i) from rfl, List.range_eq_range']
      · by_cases h95 : c = 95
        · subst h95
          refine ⟨k + 1, ?_⟩
          show (if (((95 :: t : List Int).length : Nat) : Int) = 0 then _ else (if 0 < (((95 :: t : List Int).length : Nat) : Int) then (if (rd (95 :: t) 0) = 92 then _ else (if (rd (95 :: t) 0) = 37 then _ else (if (rd (95 :: t) 0) = 95 then (if (s.length : Int) = 0 then (if 1 ≤ (((95 :: t : List Int).length : Nat) : Int) then ((spec_LKMatch.f k fold ((95 :: t : List Int).drop 1) 92 s).bind fun bt130 => (some (false, bt130.2))) else none) else (if 1 ≤ (((95 :: t : List Int).length : Nat) : Int) then (if 1 ≤ (s.length : Int) then ((spec_LKMatch.f k fold ((95 :: t : List Int).drop 1) 92 (s.drop 1)).bind fun bt138 => (some (bt138.1, bt138.2))) else none) else none)) else _))) else none)) = _
          rw [if_neg (by simp only [List.length_cons]; omega), if_pos (by simp only [List.length_cons]; omega), rd_zero, if_neg (by decide), if_neg (by decide), if_pos rfl, show (95 :: t : List Int).drop 1 = t from rfl]
          unfold want
          rw [hnod, show nd (gF fold) 95 = some (-1) from rfl]
          cases s with
          | nil =>
            rw [if_pos (by simp), if_pos (by simp only [List.length_cons]; omega), h2, Option.bind_some]
            unfold want
            cases nodes (gF fold) t <;> rfl
          | cons d u =>
            rw [if_neg (by simp only [List.length_cons]; omega), if_pos (by simp only [List.length_cons]; omega), if_pos (by simp only [List.length_cons]; omega), show (d :: u).drop 1 = u from rfl, cons k t h1 d u rfl, Option.bind_some]
            unfold want
            cases nodes (gF fold) t with
            | none => rfl
            | some N =>
              show _ = some ((decide ((-1 : Int) < 0) || _) && mt (gF fold) N u, true)
              simp
        · refine ⟨k + 3, ?_⟩
          show (if (((c :: t : List Int).length : Nat) : Int) = 0 then _ else (if 0 < (((c :: t : List Int).length : Nat) : Int) then (if (rd (c :: t) 0) = 92 then _ else (if (rd (c :: t) 0) = 37 then _ else (if (rd (c :: t) 0) = 95 then _ else (spec_LKMatch.j1 (k + 2) fold (c :: t) 92 s)))) else none)) = _
          rw [if_neg (by simp only [List.length_cons]; omega), if_pos (by simp only [List.length_cons]; omega), rd_zero, if_neg h92, if_neg h37, if_neg h95, j1_ok fold c t s hp2.1 hs k h2 (cons k t h1)]
          unfold want
          rw [hnod, show nd (gF fold) c = some (gF fold c) by unfold nd; rw [if_neg h37, if_neg h95]]
          cases nodes (gF fold) t <;> rfl
end Go.Proofs.YthicaehcoingeaaDoor.PLK
