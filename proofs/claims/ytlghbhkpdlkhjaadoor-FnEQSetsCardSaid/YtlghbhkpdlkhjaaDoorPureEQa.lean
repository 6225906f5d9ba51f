/-
  Sets of columns that are equivalent are joined as soon as they meet: the plain law. No condition beyond the law's own guards.
-/
import Derived.Test.YtlghbhkpdlkhjaaDoorPEQ3
import Derived.Test.YtlghbhkpdlkhjaaDoorEQp
namespace Go.Proofs.YtlghbhkpdlkhjaaDoor.PEQ
open Go.RowKit Go.Proofs.YtlghbhkpdlkhjaaDoorW.PrintWords Go.Proofs.YtlghbhkpdlkhjaaDoorW.PrintLast
open Go.Proofs.YtlghbhkpdlkhjaaDoor.PIS (sorted_ext)
set_option linter.unusedVariables false

theorem rd_get (l : List Int) (i : Nat) (h : i < l.length) : rd l (i : Int) = l[i] := by
  unfold rd; rw [Int.toNat_natCast, List.getD_eq_getElem?_getD, List.getElem?_eq_getElem h]; rfl
theorem w64 (i : Nat) (h : i ≤ 100000) : wrap64 ((i : Int) + 1) = ((i + 1 : Nat) : Int) := by unfold wrap64; omega
/-- what spec.ISPut does with what is left of the list -/
def gp (x : Int) : List Int → Bool → List Int
  | [], d => if d then [] else [x]
  | z :: t, d => if d = false ∧ z ≥ x then [x] ++ (if z = x then [] else [z]) ++ gp x t true else (if z = x then [] else [z]) ++ gp x t d
theorem gp_cons (x z : Int) (t : List Int) (d : Bool) : gp x (z :: t) d = if d = false ∧ z ≥ x then [x] ++ (if z = x then [] else [z]) ++ gp x t true else (if z = x then [] else [z]) ++ gp x t d := rfl
theorem gp_true (x : Int) : ∀ l : List Int, gp x l true = l.filter (fun y => decide (y ≠ x))
  | [] => rfl
  | z :: t => by
    unfold gp
    rw [if_neg (by simp), gp_true x t]
    by_cases h : z = x
    · rw [if_pos h, List.filter_cons_of_neg (by simpa using h)]; rfl
    · rw [if_neg h, List.filter_cons_of_pos (by simpa using h)]; rfl
theorem gp_spec (x : Int) : ∀ l : List Int, l.Pairwise (· < ·) → (gp x l false).Pairwise (· < ·) ∧ (∀ y, y ∈ gp x l false ↔ y = x ∨ y ∈ l)
  | [], _ => by simp [gp]
  | z :: t, hs => by
    obtain ⟨h1, h2⟩ := List.pairwise_cons.1 hs
    obtain ⟨i1, i2⟩ := gp_spec x t h2
    unfold gp
    by_cases hz : z ≥ x
    · rw [if_pos ⟨rfl, hz⟩, gp_true]
      have hf : (t.filter fun y => decide (y ≠ x)).Pairwise (· < ·) := h2.sublist List.filter_sublist
      have hm : ∀ y, y ∈ (t.filter fun y => decide (y ≠ x)) → y ∈ t := fun y hy => (List.mem_filter.1 hy).1
      by_cases he : z = x
      · subst he
        rw [if_pos rfl]
        refine ⟨List.pairwise_cons.2 ⟨fun y hy => h1 y (hm y hy), hf⟩, fun y => ?_⟩
        simp
        constructor
        · rintro (h | ⟨h, _⟩)
          · exact .inl h
          · exact .inr h
        · rintro (h | h)
          · exact .inl h
          · have := h1 y h
            exact .inr ⟨h, by omega⟩
      · rw [if_neg he]
        refine ⟨List.pairwise_cons.2 ⟨fun y hy => ?_, List.pairwise_cons.2 ⟨fun y hy => h1 y (hm y hy), hf⟩⟩, fun y => ?_⟩
        · rcases List.mem_cons.1 hy with rfl | hy
          · omega
          · have := h1 y (hm y hy); omega
        · simp
          constructor
          · rintro (h | h | ⟨h, _⟩)
            · exact .inl h
            · exact .inr (.inl h)
            · exact .inr (.inr h)
          · rintro (h | h | h)
            · exact .inl h
            · exact .inr (.inl h)
            · have := h1 y h
              exact .inr (.inr ⟨h, by omega⟩)
    · rw [if_neg (fun h => hz h.2), if_neg (by omega)]
      refine ⟨List.pairwise_cons.2 ⟨fun y hy => ?_, i1⟩, fun y => ?_⟩
      · rcases (i2 y).1 hy with rfl | hy
        · omega
        · exact h1 y hy
      · show y ∈ z :: gp x t false ↔ _
        rw [List.mem_cons, i2, List.mem_cons]
        constructor
        · rintro (h | h | h)
          · exact .inr (.inl h)
          · exact .inl h
          · exact .inr (.inr h)
        · rintro (h | h | h)
          · exact .inr (.inl h)
          · exact .inl h
          · exact .inr (.inr h)
theorem gp_len (x : Int) : ∀ (l : List Int) (d : Bool), (gp x l d).length ≤ l.length + 1
  | [], d => by cases d <;> simp [gp]
  | z :: t, d => by
    unfold gp
    have e : (if z = x then ([] : List Int) else [z]).length ≤ 1 := by split <;> simp
    split
    · rw [gp_true]
      have := List.length_filter_le (fun y => decide (y ≠ x)) t
      simp only [List.length_append, List.length_cons, List.length_nil]
      omega
    · have := gp_len x t d
      simp only [List.length_append, List.length_cons]
      omega
theorem put_go (l : List Int) (x : Int) (hl : l.length ≤ 1000) : ∀ (d i K : Nat) (out : List Int) (f : Bool), i + d = l.length → 2 * d + 2 ≤ K → out.length ≤ 2 * i →
    spec_ISPut.l0 K l x out f (i : Int) = some (out ++ gp x (l.drop i) f) := by
  intro d
  induction d with
  | zero =>
    intro i K out f hi hK ho
    obtain ⟨K, rfl⟩ : ∃ z, K = z + 1 := ⟨K - 1, by omega⟩
    rw [spec_ISPut.l0, if_neg (by omega), List.drop_eq_nil_of_le (by omega)]
    cases f
    · rw [if_neg (by decide), if_pos (by omega)]; rfl
    · rw [if_pos rfl]; simp [gp]
  | succ d ih =>
    intro i K out f hi hK ho
    obtain ⟨K, rfl⟩ : ∃ z, K = z + 2 := ⟨K - 2, by omega⟩
    have hlt : i < l.length := by omega
    rw [spec_ISPut.l0, if_pos (by omega), List.drop_eq_getElem_cons hlt]
    have hw := w64 i (by omega)
    cases f
    · rw [if_neg (by decide), if_pos (by omega), rd_get l i hlt, spec_ISPut.j1]
      by_cases hz : l[i] ≥ x
      · rw [if_pos (decide_eq_true hz), if_pos (by omega), Option.bind_some, if_pos (by omega), if_pos (by omega), rd_get l i hlt]
        by_cases he : l[i] = x
        · rw [if_pos he, hw, ih (i + 1) K _ true (by omega) (by omega) (by simp; omega)]
          rw [gp_cons, if_pos ⟨rfl, hz⟩, if_pos he]
          simp
        · rw [if_neg he, if_pos (by simp; omega), hw, ih (i + 1) K _ true (by omega) (by omega) (by simp; omega)]
          rw [gp_cons, if_pos ⟨rfl, hz⟩, if_neg he]
          simp
      · rw [if_neg (by simpa using hz), if_pos (by omega), if_pos (by omega), rd_get l i hlt]
        have he : ¬ l[i] = x := by omega
        rw [if_neg he, if_pos (by omega), hw, ih (i + 1) K _ false (by omega) (by omega) (by simp; omega)]
        rw [gp_cons, if_neg (fun h => hz h.2), if_neg he]
        simp
    · rw [if_pos rfl, spec_ISPut.j1, if_neg (by decide), if_pos (by omega), if_pos (by omega), rd_get l i hlt]
      by_cases he : l[i] = x
      · rw [if_pos he, hw, ih (i + 1) K _ true (by omega) (by omega) (by omega)]
        rw [gp_cons, if_neg (by simp), if_pos he]
        rfl
      · rw [if_neg he, if_pos (by omega), hw, ih (i + 1) K _ true (by omega) (by omega) (by simp; omega)]
        rw [gp_cons, if_neg (by simp), if_neg he]
        simp
theorem put_ok (l : List Int) (x : Int) (K : Nat) (hl : l.length ≤ 1000) (hK : 2 * l.length + 2 ≤ K) : spec_ISPut.f K l x = some (gp x l false) := by
  unfold spec_ISPut.f
  have := put_go l x hl l.length 0 K [] false (by omega) hK (by simp)
  rw [List.drop_zero, List.nil_append] at this
  exact this
theorem same_go (a b : List Int) (hl : a.length = b.length) (ha : a.length ≤ 1000) : ∀ (d i K : Nat), i + d = a.length → d + 1 ≤ K → spec_ISSame.l0 K a b (i : Int) = some (decide (a.drop i = b.drop i)) := by
  intro d
  induction d with
  | zero =>
    intro i K hi hK
    obtain ⟨K, rfl⟩ : ∃ z, K = z + 1 := ⟨K - 1, by omega⟩
    rw [spec_ISSame.l0, if_neg (by omega), List.drop_eq_nil_of_le (by omega), List.drop_eq_nil_of_le (by omega)]
    simp
  | succ d ih =>
    intro i K hi hK
    obtain ⟨K, rfl⟩ : ∃ z, K = z + 1 := ⟨K - 1, by omega⟩
    have h1 : i < a.length := by omega
    have h2 : i < b.length := by omega
    rw [spec_ISSame.l0, if_pos (by omega), if_pos (by omega), if_pos (by omega), rd_get a i h1, rd_get b i h2, List.drop_eq_getElem_cons h1, List.drop_eq_getElem_cons h2]
    by_cases he : a[i] = b[i]
    · rw [if_pos he, w64 i (by omega), ih (i + 1) K (by omega) (by omega)]
      simp only [List.cons.injEq, he, true_and]
    · rw [if_neg he]
      simp only [List.cons.injEq, he, false_and, decide_false]
theorem same_ok (a b : List Int) (ha : a.length ≤ 1000) (K : Nat) (hK : a.length + 1 ≤ K) : spec_ISSame.f K a b = some (decide (a = b)) := by
  unfold spec_ISSame.f
  by_cases h : a.length = b.length
  · rw [if_pos (by omega)]
    have := same_go a b h ha a.length 0 K (by omega) hK
    simpa using this
  · rw [if_neg (by omega)]
    congr 1
    symm
    rw [decide_eq_false_iff_not]
    rintro rfl
    exact h rfl
theorem has_go (l : List Int) (x : Int) (hl : l.length ≤ 1000) : ∀ (d i K : Nat), i + d = l.length → d + 1 ≤ K → spec_ISHas.l0 K l x (i : Int) = some (decide (x ∈ l.drop i)) := by
  intro d
  induction d with
  | zero =>
    intro i K hi hK
    obtain ⟨K, rfl⟩ : ∃ z, K = z + 1 := ⟨K - 1, by omega⟩
    rw [spec_ISHas.l0, if_neg (by omega), List.drop_eq_nil_of_le (by omega)]
    simp
  | succ d ih =>
    intro i K hi hK
    obtain ⟨K, rfl⟩ : ∃ z, K = z + 1 := ⟨K - 1, by omega⟩
    have h1 : i < l.length := by omega
    rw [spec_ISHas.l0, if_pos (by omega), if_pos (by omega), rd_get l i h1, List.drop_eq_getElem_cons h1]
    by_cases he : l[i] = x
    · rw [if_pos he]
      simp only [List.mem_cons, he, true_or, decide_true]
    · rw [if_neg he, w64 i (by omega), ih (i + 1) K (by omega) (by omega)]
      have : x ≠ l[i] := fun h => he h.symm
      simp only [List.mem_cons, this, false_or]
theorem has_ok (l : List Int) (x : Int) (hl : l.length ≤ 1000) (K : Nat) (hK : l.length + 1 ≤ K) : spec_ISHas.f K l x = some (decide (x ∈ l)) := by
  unfold spec_ISHas.f
  have := has_go l x hl l.length 0 K (by omega) hK
  simpa using this
theorem both_go (a b : List Int) (f : Bool) (ha : a.length ≤ 100) (hb : b.length ≤ 100) : ∀ (d i K : Nat) (out : List Int), i + d = a.length → d + 200 ≤ K → out.length ≤ i →
    spec_ISBoth.l0 K a b f out (i : Int) = some (out ++ (a.drop i).filter fun x => decide (x ∈ b) == f) := by
  intro d
  induction d with
  | zero =>
    intro i K out hi hK ho
    obtain ⟨K, rfl⟩ : ∃ z, K = z + 1 := ⟨K - 1, by omega⟩
    rw [spec_ISBoth.l0, if_neg (by omega), List.drop_eq_nil_of_le (by omega)]
    simp
  | succ d ih =>
    intro i K out hi hK ho
    obtain ⟨K, rfl⟩ : ∃ z, K = z + 1 := ⟨K - 1, by omega⟩
    have h1 : i < a.length := by omega
    rw [spec_ISBoth.l0, if_pos (by omega), if_pos (by omega), rd_get a i h1, has_ok b _ (by omega) K (by omega), Option.bind_some, List.drop_eq_getElem_cons h1, w64 i (by omega)]
    by_cases he : (decide (a[i] ∈ b) == f) = true
    · rw [if_pos he, if_pos (by omega), ih (i + 1) K _ (by omega) (by omega) (by simp; omega), List.filter_cons_of_pos (p := fun x => decide (x ∈ b) == f) he]
      simp only [List.append_assoc, List.cons_append, List.nil_append]
    · rw [if_neg he, ih (i + 1) K _ (by omega) (by omega) (by omega), List.filter_cons_of_neg (p := fun x => decide (x ∈ b) == f) he]
theorem both_ok (a b : List Int) (f : Bool) (ha : a.length ≤ 100) (hb : b.length ≤ 100) (K : Nat) (hK : a.length + 200 ≤ K) : spec_ISBoth.f K a b f = some (a.filter fun x => decide (x ∈ b) == f) := by
  unfold spec_ISBoth.f
  have := both_go a b f ha hb a.length 0 K [] (by omega) (by omega) (by simp)
  simpa using this
theorem ev_put (l : List Int) (x : Int) (hl : l.length ≤ 1000) : Ev (fun k => spec_ISPut.f k l x) (gp x l false) := ⟨2 * l.length + 2, fun k hk => put_ok l x k hl hk⟩
theorem ev_same (a b : List Int) (ha : a.length ≤ 1000) : Ev (fun k => spec_ISSame.f k a b) (decide (a = b)) := ⟨a.length + 1, fun k hk => same_ok a b ha k hk⟩
theorem ev_both (a b : List Int) (f : Bool) (ha : a.length ≤ 100) (hb : b.length ≤ 100) : Ev (fun k => spec_ISBoth.f k a b f) (a.filter fun x => decide (x ∈ b) == f) := ⟨a.length + 200, fun k hk => both_ok a b f ha hb k hk⟩
/-- with all of a list -/
def putAll (acc l : List Int) : List Int := l.foldl (fun s x => gp x s false) acc
theorem putAll_spec : ∀ (l acc : List Int), acc.Pairwise (· < ·) → (putAll acc l).Pairwise (· < ·) ∧ (∀ y, y ∈ putAll acc l ↔ y ∈ acc ∨ y ∈ l) ∧ (putAll acc l).length ≤ acc.length + l.length
  | [], acc, h => ⟨h, fun y => by simp [putAll], by simp [putAll]⟩
  | x :: t, acc, h => by
    obtain ⟨p1, p2⟩ := gp_spec x acc h
    obtain ⟨q1, q2, q3⟩ := putAll_spec t (gp x acc false) p1
    have hl := gp_len x acc false
    refine ⟨q1, fun y => ?_, ?_⟩
    · rw [show putAll acc (x :: t) = putAll (gp x acc false) t from rfl, q2 y, p2 y, List.mem_cons]
      constructor
      · rintro ((h | h) | h)
        · exact .inr (.inl h)
        · exact .inl h
        · exact .inr (.inr h)
      · rintro (h | h | h)
        · exact .inl (.inr h)
        · exact .inl (.inl h)
        · exact .inr h
    · rw [show putAll acc (x :: t) = putAll (gp x acc false) t from rfl, List.length_cons]
      omega
theorem ev_of_go (l : List Int) (hl : l.length ≤ 500) : ∀ (d i : Nat) (acc : List Int), i + d = l.length → acc.length ≤ i → Ev (fun k => spec_ISOf.l0 k l acc (i : Int)) (putAll acc (l.drop i))
  | 0, i, acc, hi, ha => Ev.step (f := fun _ => some (putAll acc (l.drop i))) (fun k => by rw [spec_ISOf.l0, if_neg (by omega), List.drop_eq_nil_of_le (by omega)]; rfl) (Ev.now _)
  | d + 1, i, acc, hi, ha => by
    have hlt : i < l.length := by omega
    refine Ev.step (f := fun k => (spec_ISPut.f k acc (rd l (i : Int))).bind fun t => spec_ISOf.l0 k l t (wrap64 ((i : Int) + 1))) (fun k => by rw [spec_ISOf.l0, if_pos (by omega), if_pos (by omega)]) ?_
    refine Ev.bind (ev_put acc _ (by omega)) ?_
    rw [w64 i (by omega), rd_get l i hlt, List.drop_eq_getElem_cons hlt]
    have hg := gp_len l[i] acc false
    exact ev_of_go l hl d (i + 1) _ (by omega) (by omega)
theorem ev_of (l : List Int) (hl : l.length ≤ 500) : Ev (fun k => spec_ISOf.f k l) (putAll [] l) := by
  have h := ev_of_go l hl l.length 0 [] (by omega) (by simp)
  rw [List.drop_zero] at h
  exact h
theorem ev_all_go (l : List Int) (hl : l.length ≤ 400) : ∀ (d i : Nat) (acc : List Int), i + d = l.length → acc.length ≤ i + 400 → Ev (fun k => spec_ISAll.l0 k l acc (i : Int)) (putAll acc (l.drop i))
  | 0, i, acc, hi, ha => Ev.step (f := fun _ => some (putAll acc (l.drop i))) (fun k => by rw [spec_ISAll.l0, if_neg (by omega), List.drop_eq_nil_of_le (by omega)]; rfl) (Ev.now _)
  | d + 1, i, acc, hi, ha => by
    have hlt : i < l.length := by omega
    refine Ev.step (f := fun k => (spec_ISPut.f k acc (rd l (i : Int))).bind fun t => spec_ISAll.l0 k l t (wrap64 ((i : Int) + 1))) (fun k => by rw [spec_ISAll.l0, if_pos (by omega), if_pos (by omega)]) ?_
    refine Ev.bind (ev_put acc _ (by omega)) ?_
    rw [w64 i (by omega), rd_get l i hlt, List.drop_eq_getElem_cons hlt]
    have hg := gp_len l[i] acc false
    exact ev_all_go l hl d (i + 1) _ (by omega) (by omega)
theorem ev_all (a l : List Int) (ha : a.length ≤ 400) (hl : l.length ≤ 400) : Ev (fun k => spec_ISAll.f k a l) (putAll a l) := by
  have h := ev_all_go l hl l.length 0 a (by omega) (by omega)
  rw [List.drop_zero] at h
  exact h
theorem rdL (l : List (List Int)) (i : Nat) (h : i < l.length) : rd_L1 l (i : Int) = l[i] := by
  unfold rd_L1; rw [Int.toNat_natCast, List.getD_eq_getElem?_getD, List.getElem?_eq_getElem h]; rfl
/-- a set of the law: rising columns from 1 to 30, at most five -/
def SetOk (s : List Int) : Prop := s.Pairwise (· < ·) ∧ (∀ x ∈ s, 1 ≤ x ∧ x ≤ 30) ∧ s ≠ [] ∧ s.length ≤ 5
def Fin (r : List (List Int)) : Prop := r.length ≤ 13 ∧ ∀ s ∈ r, SetOk s
theorem val30 (x : Int) : 1 ≤ wrap64 (1 + (Int.tmod (wrap64 ((Int.tmod x 30) + 30)) 30)) ∧ wrap64 (1 + (Int.tmod (wrap64 ((Int.tmod x 30) + 30)) 30)) ≤ 30 := by
  have h1 : -30 < Int.tmod x 30 := by
    have := Int.lt_tmod_of_pos x (show (0 : Int) < 30 by decide)
    omega
  have h2 : Int.tmod x 30 < 30 := Int.tmod_lt_of_pos x (by decide)
  have hw : wrap64 ((Int.tmod x 30) + 30) = Int.tmod x 30 + 30 := by unfold wrap64; omega
  rw [hw, Int.tmod_eq_emod_of_nonneg (by omega)]
  unfold wrap64
  omega
def Acc (n : Nat) (s : List Int) : Prop := s.Pairwise (· < ·) ∧ (∀ x ∈ s, 1 ≤ x ∧ x ≤ 30) ∧ s.length ≤ n
theorem acc_put {n : Nat} {l : List Int} {x : Int} (h : Acc n l) (h0 : 1 ≤ x) (h1 : x ≤ 30) : Acc (n + 1) (gp x l false) := by
  obtain ⟨a, b, c⟩ := h
  obtain ⟨p1, p2⟩ := gp_spec x l a
  refine ⟨p1, fun y hy => ?_, by have := gp_len x l false; omega⟩
  rcases (p2 y).1 hy with rfl | hy
  · exact ⟨h0, h1⟩
  · exact b y hy
def OkOut (n : Nat) (out : List (List Int)) : Prop := out.length ≤ n ∧ ∀ s ∈ out, SetOk s
theorem ev_inner (x0 : List (List Int)) (i : Nat) (hi : i < x0.length) (hi2 : i < 12) (out : List (List Int)) (ho : OkOut i out)
    (next : ∀ out', OkOut (i + 1) out' → ∃ r, Ev (fun k => laws_eqSets.l0 k x0 out' ((i + 1 : Nat) : Int)) r ∧ Fin r) :
    ∀ (d j : Nat) (acc : List Int), 5 - j = d → j ≤ 5 → Acc j acc → ∃ r, Ev (fun k => laws_eqSets.l1 k x0 out (i : Int) acc (j : Int)) r ∧ Fin r := by
  have stop : ∀ (j : Nat) (acc : List Int), Acc j acc → j ≤ 5 → (¬ (j : Int) < ((x0[i]).length : Int) ∨ ¬ (j : Int) < 5) → ∃ r, Ev (fun k => laws_eqSets.l1 k x0 out (i : Int) acc (j : Int)) r ∧ Fin r := by
    intro j acc ha hj hs
    have hw := w64 i (by omega)
    by_cases hc : (acc.length : Int) > 1
    · obtain ⟨r, h1, h2⟩ := next (out ++ [acc]) ⟨by have := ho.1; simp; omega, fun s hs2 => by
        rcases List.mem_append.1 hs2 with h | h
        · exact ho.2 s h
        · rw [List.mem_singleton.1 h]
          exact ⟨ha.1, ha.2.1, by rintro rfl; simp at hc, by have := ha.2.2; omega⟩⟩
      refine ⟨r, Ev.step (f := fun k => laws_eqSets.l0 k x0 (out ++ [acc]) ((i + 1 : Nat) : Int)) (fun k => ?_) h1, h2⟩
      have := ho.1
      rw [laws_eqSets.l1, if_pos (by omega), if_pos (by omega), rdL x0 i hi]
      rcases hs with hs | hs
      · rw [if_neg hs, if_pos hc, if_pos (by omega), hw]
      · by_cases hs2 : (j : Int) < ((x0[i]).length : Int)
        · rw [if_pos hs2, if_neg hs, if_pos hc, if_pos (by omega), hw]
        · rw [if_neg hs2, if_pos hc, if_pos (by omega), hw]
    · obtain ⟨r, h1, h2⟩ := next out ⟨by have := ho.1; omega, ho.2⟩
      refine ⟨r, Ev.step (f := fun k => laws_eqSets.l0 k x0 out ((i + 1 : Nat) : Int)) (fun k => ?_) h1, h2⟩
      rw [laws_eqSets.l1, if_pos (by omega), if_pos (by omega), rdL x0 i hi]
      rcases hs with hs | hs
      · rw [if_neg hs, if_neg hc, hw]
      · by_cases hs2 : (j : Int) < ((x0[i]).length : Int)
        · rw [if_pos hs2, if_neg hs, if_neg hc, hw]
        · rw [if_neg hs2, if_neg hc, hw]
  intro d
  induction d with
  | zero =>
    intro j acc hd hj ha
    exact stop j acc ha hj (.inr (by omega))
  | succ d ih =>
    intro j acc hd hj ha
    by_cases hlt : (j : Int) < ((x0[i]).length : Int)
    · obtain ⟨v0, v1⟩ := val30 (rd x0[i] (j : Int))
      obtain ⟨r, h1, h2⟩ := ih (j + 1) _ (by omega) (by omega) (acc_put ha v0 v1)
      refine ⟨r, Ev.step (f := fun k => (spec_ISPut.f k acc (wrap64 (1 + (Int.tmod (wrap64 ((Int.tmod (rd x0[i] (j : Int)) 30) + 30)) 30)))).bind fun t => laws_eqSets.l1 k x0 out (i : Int) t (wrap64 ((j : Int) + 1))) (fun k => ?_) (Ev.bind (ev_put acc _ (by have := ha.2.2; omega)) (by rw [w64 j (by omega)]; exact h1)), h2⟩
      rw [laws_eqSets.l1, if_pos (by omega), if_pos (by omega), rdL x0 i hi, if_pos hlt, if_pos (by omega), if_pos (by omega)]
    · exact stop j acc ha hj (.inl hlt)
theorem ev_eqSets (x0 : List (List Int)) : ∀ (d i : Nat) (out : List (List Int)), 12 - i = d → i ≤ 12 → OkOut i out → ∃ r, Ev (fun k => laws_eqSets.l0 k x0 out (i : Int)) r ∧ Fin r := by
  have stop : ∀ (i : Nat) (out : List (List Int)), i ≤ 12 → OkOut i out → (¬ (i : Int) < (x0.length : Int) ∨ ¬ (i : Int) < 12) → ∃ r, Ev (fun k => laws_eqSets.l0 k x0 out (i : Int)) r ∧ Fin r := by
    intro i out hi ho hs
    have hol := ho.1
    refine ⟨out ++ [[2, 7]], Ev.step (f := fun k => laws_eqSets.j1 k x0 out (i : Int) false) (fun k => ?_) (Ev.step (f := fun _ => some (out ++ [[2, 7]])) (fun k => ?_) (Ev.now _)), ?_⟩
    · rw [laws_eqSets.l0]
      rcases hs with hs | hs
      · rw [if_neg hs]
      · rw [decide_eq_false hs]
        split <;> rfl
    · rw [laws_eqSets.j1, if_neg (by decide), if_pos (by omega)]
    · refine ⟨by simp; omega, fun s hs2 => ?_⟩
      rcases List.mem_append.1 hs2 with h | h
      · exact ho.2 s h
      · rw [List.mem_singleton.1 h]
        exact ⟨by decide, by decide, by decide, by decide⟩
  intro d
  induction d with
  | zero => intro i out hd hi ho; exact stop i out hi ho (.inr (by omega))
  | succ d ih =>
    intro i out hd hi ho
    by_cases hlt : i < x0.length
    · obtain ⟨r, h1, h2⟩ := ev_inner x0 i hlt (by omega) out ho (fun out' ho' => ih (i + 1) out' (by omega) (by omega) ho') 5 0 [] rfl (by omega) ⟨List.Pairwise.nil, fun x h => by simp at h, by simp⟩
      refine ⟨r, Ev.step (f := fun k => laws_eqSets.j1 k x0 out (i : Int) true) (fun k => ?_) (Ev.step (f := fun k => laws_eqSets.l1 k x0 out (i : Int) [] 0) (fun k => ?_) h1), h2⟩
      · rw [laws_eqSets.l0, if_pos (by omega), decide_eq_true (by omega)]
      · rw [laws_eqSets.j1, if_pos rfl]
    · exact stop i out hi ho (.inl (by omega))
theorem ev_fits (l : List (List Int)) (hl : (l.length : Int) ≤ 2147483647) : ∀ (d i : Nat), i + d = l.length → ∃ b, Ev (fun k => laws_zzFits7.l0 k l (l.length : Int) (i : Int)) b
  | 0, i, hi => ⟨true, Ev.step (f := fun _ => some true) (fun k => by rw [laws_zzFits7.l0, if_neg (by omega)]) (Ev.now _)⟩
  | d + 1, i, hi => by
    have hlt : i < l.length := by omega
    by_cases h : ((rd_L1 l (i : Int)).length : Int) > 2147483647
    · exact ⟨false, Ev.step (f := fun _ => some false) (fun k => by rw [laws_zzFits7.l0, if_pos (by omega), if_pos (by omega), if_pos (by omega), if_pos h]) (Ev.now _)⟩
    · obtain ⟨b, hb⟩ := ev_fits l hl d (i + 1) (by omega)
      refine ⟨b, Ev.step (f := fun k => laws_zzFits7.l0 k l (l.length : Int) ((i + 1 : Nat) : Int)) (fun k => ?_) hb⟩
      rw [laws_zzFits7.l0, if_pos (by omega), if_pos (by omega), if_pos (by omega), if_neg h, show wrap64 ((i : Int) + 1) = ((i + 1 : Nat) : Int) by unfold wrap64; omega]
end Go.Proofs.YtlghbhkpdlkhjaaDoor.PEQ
