/-
  Two sets are equal, part of each other, or have a number in common, as lists are: the plain law. No condition beyond the law's own guards.
-/
import Derived.Test.YtlghbhkpdlkhjaaDoorPIS2
import Derived.OpenShut
namespace Go.Proofs.YtlghbhkpdlkhjaaDoor.Pure
open Go.RowKit Go.Proofs.YtlghbhkpdlkhjaaDoor.PIS Go.Proofs.YtlghbhkpdlkhjaaDoorW.PrintWords Go.Proofs.YtlghbhkpdlkhjaaDoorW.PrintLast
set_option linter.unusedVariables false

theorem rd_get (l : List Int) (i : Nat) (h : i < l.length) : rd l (i : Int) = l[i] := by
  unfold rd; rw [Int.toNat_natCast, List.getD_eq_getElem?_getD, List.getElem?_eq_getElem h]; rfl
theorem w64 (i : Nat) (h : i ≤ 100000) : wrap64 ((i : Int) + 1) = ((i + 1 : Nat) : Int) := by unfold wrap64; omega
/-- what spec.ISPut does with what is left of the list -/
def gp (x : Int) : List Int → Bool → List Int
  | [], d => if d then [] else [x]
  | z :: t, d => if d = false ∧ z ≥ x then [x] ++ (if z = x then [] else [z]) ++ gp x t true else (if z = x then [] else [z]) ++ gp x t d
theorem gp_cons (x z : Int) (t : List Int) (d : Bool) : gp x (z :: t) d = if d = false ∧ z ≥ x then [x] ++ (if z = x then [] else [z]) ++ gp x t true else (if z = x then [] else [z]) ++ gp x t d := rfl
theorem gp_true (x : Int) : ∀ l : List Int, gp x l true = l.filter (fun y => decide (y ≠ x))
  | [] => rfl
  | z :: t => by
    unfold gp
    rw [if_neg (by simp), gp_true x t]
    by_cases h : z = x
    · rw [if_pos h, List.filter_cons_of_neg (by simpa using h)]; rfl
    · rw [if_neg h, List.filter_cons_of_pos (by simpa using h)]; rfl
theorem gp_spec (x : Int) : ∀ l : List Int, l.Pairwise (· < ·) → (gp x l false).Pairwise (· < ·) ∧ (∀ y, y ∈ gp x l false ↔ y = x ∨ y ∈ l)
  | [], _ => by simp [gp]
  | z :: t, hs => by
    obtain ⟨h1, h2⟩ := List.pairwise_cons.1 hs
    obtain ⟨i1, i2⟩ := gp_spec x t h2
    unfold gp
    by_cases hz : z ≥ x
    · rw [if_pos ⟨rfl, hz⟩, gp_true]
      have hf : (t.filter fun y => decide (y ≠ x)).Pairwise (· < ·) := h2.sublist List.filter_sublist
      have hm : ∀ y, y ∈ (t.filter fun y => decide (y ≠ x)) → y ∈ t := fun y hy => (List.mem_filter.1 hy).1
      by_cases he : z = x
      · subst he
        rw [if_pos rfl]
        refine ⟨List.pairwise_cons.2 ⟨fun y hy => h1 y (hm y hy), hf⟩, fun y => ?_⟩
        simp
        constructor
        · rintro (h | ⟨h, _⟩)
          · exact .inl h
          · exact .inr h
        · rintro (h | h)
          · exact .inl h
          · have := h1 y h
            exact .inr ⟨h, by omega⟩
      · rw [if_neg he]
        refine ⟨List.pairwise_cons.2 ⟨fun y hy => ?_, List.pairwise_cons.2 ⟨fun y hy => h1 y (hm y hy), hf⟩⟩, fun y => ?_⟩
        · rcases List.mem_cons.1 hy with rfl | hy
          · omega
          · have := h1 y (hm y hy); omega
        · simp
          constructor
          · rintro (h | h | ⟨h, _⟩)
            · exact .inl h
            · exact .inr (.inl h)
            · exact .inr (.inr h)
          · rintro (h | h | h)
            · exact .inl h
            · exact .inr (.inl h)
            · have := h1 y h
              exact .inr (.inr ⟨h, by omega⟩)
    · rw [if_neg (fun h => hz h.2), if_neg (by omega)]
      refine ⟨List.pairwise_cons.2 ⟨fun y hy => ?_, i1⟩, fun y => ?_⟩
      · rcases (i2 y).1 hy with rfl | hy
        · omega
        · exact h1 y hy
      · show y ∈ z :: gp x t false ↔ _
        rw [List.mem_cons, i2, List.mem_cons]
        constructor
        · rintro (h | h | h)
          · exact .inr (.inl h)
          · exact .inl h
          · exact .inr (.inr h)
        · rintro (h | h | h)
          · exact .inr (.inl h)
          · exact .inl h
          · exact .inr (.inr h)
theorem gp_len (x : Int) : ∀ (l : List Int) (d : Bool), (gp x l d).length ≤ l.length + 1
  | [], d => by cases d <;> simp [gp]
  | z :: t, d => by
    unfold gp
    have e : (if z = x then ([] : List Int) else [z]).length ≤ 1 := by split <;> simp
    split
    · rw [gp_true]
      have := List.length_filter_le (fun y => decide (y ≠ x)) t
      simp only [List.length_append, List.length_cons, List.length_nil]
      omega
    · have := gp_len x t d
      simp only [List.length_append, List.length_cons]
      omega
theorem put_go (l : List Int) (x : Int) (hl : l.length ≤ 1000) : ∀ (d i K : Nat) (out : List Int) (f : Bool), i + d = l.length → 2 * d + 2 ≤ K → out.length ≤ 2 * i →
    spec_ISPut.l0 K l x out f (i : Int) = some (out ++ gp x (l.drop i) f) := by
  intro d
  induction d with
  | zero =>
    intro i K out f hi hK ho
    obtain ⟨K, rfl⟩ : ∃ z, K = z + 1 := ⟨K - 1, by omega⟩
    rw [spec_ISPut.l0, if_neg (by omega), List.drop_eq_nil_of_le (by omega)]
    cases f
    · rw [if_neg (by decide), if_pos (by omega)]; rfl
    · rw [if_pos rfl]; simp [gp]
  | succ d ih =>
    intro i K out f hi hK ho
    obtain ⟨K, rfl⟩ : ∃ z, K = z + 2 := ⟨K - 2, by omega⟩
    have hlt : i < l.length := by omega
    rw [spec_ISPut.l0, if_pos (by omega), List.drop_eq_getElem_cons hlt]
    have hw := w64 i (by omega)
    cases f
    · rw [if_neg (by decide), if_pos (by omega), rd_get l i hlt, spec_ISPut.j1]
      by_cases hz : l[i] ≥ x
      · rw [if_pos (decide_eq_true hz), if_pos (by omega), Option.bind_some, if_pos (by omega), if_pos (by omega), rd_get l i hlt]
        by_cases he : l[i] = x
        · rw [if_pos he, hw, ih (i + 1) K _ true (by omega) (by omega) (by simp; omega)]
          rw [gp_cons, if_pos ⟨rfl, hz⟩, if_pos he]
          simp
        · rw [if_neg he, if_pos (by simp; omega), hw, ih (i + 1) K _ true (by omega) (by omega) (by simp; omega)]
          rw [gp_cons, if_pos ⟨rfl, hz⟩, if_neg he]
          simp
      · rw [if_neg (by simpa using hz), if_pos (by omega), if_pos (by omega), rd_get l i hlt]
        have he : ¬ l[i] = x := by omega
        rw [if_neg he, if_pos (by omega), hw, ih (i + 1) K _ false (by omega) (by omega) (by simp; omega)]
        rw [gp_cons, if_neg (fun h => hz h.2), if_neg he]
        simp
    · rw [if_pos rfl, spec_ISPut.j1, if_neg (by decide), if_pos (by omega), if_pos (by omega), rd_get l i hlt]
      by_cases he : l[i] = x
      · rw [if_pos he, hw, ih (i + 1) K _ true (by omega) (by omega) (by omega)]
        rw [gp_cons, if_neg (by simp), if_pos he]
        rfl
      · rw [if_neg he, if_pos (by omega), hw, ih (i + 1) K _ true (by omega) (by omega) (by simp; omega)]
        rw [gp_cons, if_neg (by simp), if_neg he]
        simp
theorem put_ok (l : List Int) (x : Int) (K : Nat) (hl : l.length ≤ 1000) (hK : 2 * l.length + 2 ≤ K) : spec_ISPut.f K l x = some (gp x l false) := by
  unfold spec_ISPut.f
  have := put_go l x hl l.length 0 K [] false (by omega) hK (by simp)
  rw [List.drop_zero, List.nil_append] at this
  exact this
theorem val_ok (x : Int) : 0 ≤ Int.tmod (wrap64 ((Int.tmod x 201) + 201)) 201 ∧ Int.tmod (wrap64 ((Int.tmod x 201) + 201)) 201 ≤ 200 := by
  have h1 : -201 < Int.tmod x 201 := by
    have := Int.lt_tmod_of_pos x (show (0 : Int) < 201 by decide)
    omega
  have h2 : Int.tmod x 201 < 201 := Int.tmod_lt_of_pos x (by decide)
  have hw : wrap64 ((Int.tmod x 201) + 201) = Int.tmod x 201 + 201 := by unfold wrap64; omega
  rw [hw, Int.tmod_eq_emod_of_nonneg (by omega)]
  omega
/-- a set of the law: rising, from 0 to 200, at most so many -/
def Good (n : Nat) (l : List Int) : Prop := l.Pairwise (· < ·) ∧ (∀ x ∈ l, 0 ≤ x ∧ x ≤ 200) ∧ l.length ≤ n
theorem good_put {n : Nat} {l : List Int} {x : Int} (h : Good n l) (h0 : 0 ≤ x) (h1 : x ≤ 200) : Good (n + 1) (gp x l false) := by
  obtain ⟨a, b, c⟩ := h
  obtain ⟨p1, p2⟩ := gp_spec x l a
  refine ⟨p1, fun y hy => ?_, by have := gp_len x l false; omega⟩
  rcases (p2 y).1 hy with rfl | hy
  · exact ⟨h0, h1⟩
  · exact b y hy
theorem set_go (l : List Int) : ∀ (d i K : Nat) (acc : List Int), 40 - i = d → i ≤ 40 → 100 + d ≤ K → Good i acc → ∃ r, laws_isSet.l0 K l acc (i : Int) = some r ∧ Good 40 r := by
  intro d
  induction d with
  | zero =>
    intro i K acc hd hi hK hg
    obtain ⟨K, rfl⟩ : ∃ z, K = z + 1 := ⟨K - 1, by omega⟩
    obtain rfl : i = 40 := by omega
    refine ⟨acc, ?_, hg⟩
    rw [laws_isSet.l0]
    by_cases h : ((40 : Nat) : Int) < (l.length : Int)
    · rw [if_pos h, if_neg (by decide)]
    · rw [if_neg h]
  | succ d ih =>
    intro i K acc hd hi hK hg
    obtain ⟨K, rfl⟩ : ∃ z, K = z + 1 := ⟨K - 1, by omega⟩
    rw [laws_isSet.l0]
    by_cases h : (i : Int) < (l.length : Int)
    · have hlen := hg.2.2
      rw [if_pos h, if_pos (by omega), if_pos (by omega), put_ok acc _ K (by omega) (by omega), Option.bind_some, w64 i (by omega)]
      exact ih (i + 1) K _ (by omega) (by omega) (by omega) (good_put hg (val_ok _).1 (val_ok _).2)
    · rw [if_neg h]
      exact ⟨acc, rfl, hg.1, hg.2.1, by have := hg.2.2; omega⟩
theorem same_go (a b : List Int) (hl : a.length = b.length) (ha : a.length ≤ 1000) : ∀ (d i K : Nat), i + d = a.length → d + 1 ≤ K → spec_ISSame.l0 K a b (i : Int) = some (decide (a.drop i = b.drop i)) := by
  intro d
  induction d with
  | zero =>
    intro i K hi hK
    obtain ⟨K, rfl⟩ : ∃ z, K = z + 1 := ⟨K - 1, by omega⟩
    rw [spec_ISSame.l0, if_neg (by omega), List.drop_eq_nil_of_le (by omega), List.drop_eq_nil_of_le (by omega)]
    simp
  | succ d ih =>
    intro i K hi hK
    obtain ⟨K, rfl⟩ : ∃ z, K = z + 1 := ⟨K - 1, by omega⟩
    have h1 : i < a.length := by omega
    have h2 : i < b.length := by omega
    rw [spec_ISSame.l0, if_pos (by omega), if_pos (by omega), if_pos (by omega), rd_get a i h1, rd_get b i h2, List.drop_eq_getElem_cons h1, List.drop_eq_getElem_cons h2]
    by_cases he : a[i] = b[i]
    · rw [if_pos he, w64 i (by omega), ih (i + 1) K (by omega) (by omega)]
      simp only [List.cons.injEq, he, true_and]
    · rw [if_neg he]
      simp only [List.cons.injEq, he, false_and, decide_false]
theorem same_ok (a b : List Int) (ha : a.length ≤ 1000) (K : Nat) (hK : a.length + 1 ≤ K) : spec_ISSame.f K a b = some (decide (a = b)) := by
  unfold spec_ISSame.f
  by_cases h : a.length = b.length
  · rw [if_pos (by omega)]
    have := same_go a b h ha a.length 0 K (by omega) hK
    simpa using this
  · rw [if_neg (by omega)]
    congr 1
    symm
    rw [decide_eq_false_iff_not]
    rintro rfl
    exact h rfl
theorem has_go (l : List Int) (x : Int) (hl : l.length ≤ 1000) : ∀ (d i K : Nat), i + d = l.length → d + 1 ≤ K → spec_ISHas.l0 K l x (i : Int) = some (decide (x ∈ l.drop i)) := by
  intro d
  induction d with
  | zero =>
    intro i K hi hK
    obtain ⟨K, rfl⟩ : ∃ z, K = z + 1 := ⟨K - 1, by omega⟩
    rw [spec_ISHas.l0, if_neg (by omega), List.drop_eq_nil_of_le (by omega)]
    simp
  | succ d ih =>
    intro i K hi hK
    obtain ⟨K, rfl⟩ : ∃ z, K = z + 1 := ⟨K - 1, by omega⟩
    have h1 : i < l.length := by omega
    rw [spec_ISHas.l0, if_pos (by omega), if_pos (by omega), rd_get l i h1, List.drop_eq_getElem_cons h1]
    by_cases he : l[i] = x
    · rw [if_pos he]
      simp only [List.mem_cons, he, true_or, decide_true]
    · rw [if_neg he, w64 i (by omega), ih (i + 1) K (by omega) (by omega)]
      have : x ≠ l[i] := fun h => he h.symm
      simp only [List.mem_cons, this, false_or]
theorem has_ok (l : List Int) (x : Int) (hl : l.length ≤ 1000) (K : Nat) (hK : l.length + 1 ≤ K) : spec_ISHas.f K l x = some (decide (x ∈ l)) := by
  unfold spec_ISHas.f
  have := has_go l x hl l.length 0 K (by omega) hK
  simpa using this
theorem both_go (a b : List Int) (f : Bool) (ha : a.length ≤ 100) (hb : b.length ≤ 100) : ∀ (d i K : Nat) (out : List Int), i + d = a.length → d + 200 ≤ K → out.length ≤ i →
    spec_ISBoth.l0 K a b f out (i : Int) = some (out ++ (a.drop i).filter fun x => decide (x ∈ b) == f) := by
  intro d
  induction d with
  | zero =>
    intro i K out hi hK ho
    obtain ⟨K, rfl⟩ : ∃ z, K = z + 1 := ⟨K - 1, by omega⟩
    rw [spec_ISBoth.l0, if_neg (by omega), List.drop_eq_nil_of_le (by omega)]
    simp
  | succ d ih =>
    intro i K out hi hK ho
    obtain ⟨K, rfl⟩ : ∃ z, K = z + 1 := ⟨K - 1, by omega⟩
    have h1 : i < a.length := by omega
    rw [spec_ISBoth.l0, if_pos (by omega), if_pos (by omega), rd_get a i h1, has_ok b _ (by omega) K (by omega), Option.bind_some, List.drop_eq_getElem_cons h1, w64 i (by omega)]
    by_cases he : (decide (a[i] ∈ b) == f) = true
    · rw [if_pos he, if_pos (by omega), ih (i + 1) K _ (by omega) (by omega) (by simp; omega), List.filter_cons_of_pos (p := fun x => decide (x ∈ b) == f) he]
      simp only [List.append_assoc, List.cons_append, List.nil_append]
    · rw [if_neg he, ih (i + 1) K _ (by omega) (by omega) (by omega), List.filter_cons_of_neg (p := fun x => decide (x ∈ b) == f) he]
theorem both_ok (a b : List Int) (f : Bool) (ha : a.length ≤ 100) (hb : b.length ≤ 100) (K : Nat) (hK : a.length + 200 ≤ K) : spec_ISBoth.f K a b f = some (a.filter fun x => decide (x ∈ b) == f) := by
  unfold spec_ISBoth.f
  have := both_go a b f ha hb a.length 0 K [] (by omega) (by omega) (by simp)
  simpa using this
theorem ask_ok (a b : List Int) (ha : Good 100 a) (hb : Good 100 b) : impl_ISAsk.f a b = some (decide (a = b), decide (∀ x ∈ a, x ∈ b), decide (∃ x ∈ a, x ∈ b)) := by
  unfold impl_ISAsk.f
  rw [if_pos]
  exact ⟨⟨ha.1, fun x hx => ⟨(ha.2.1 x hx).1, by have := (ha.2.1 x hx).2; omega⟩, by have := ha.2.2; omega⟩, ⟨hb.1, fun x hx => ⟨(hb.2.1 x hx).1, by have := (hb.2.1 x hx).2; omega⟩, by have := hb.2.2; omega⟩⟩
theorem good_more {n m : Nat} {l : List Int} (h : Good n l) (hn : n ≤ m) : Good m l := ⟨h.1, h.2.1, Nat.le_trans h.2.2 hn⟩
theorem j0_ok (l0 l1 : List Int) : laws_FnISAsks.j0 601 l0 l1 false = some true := by
  rw [laws_FnISAsks.j0, if_neg (by decide)]
  obtain ⟨a, ha, ga⟩ := set_go l0 40 0 600 [] (by omega) (by omega) (by omega) ⟨List.Pairwise.nil, fun x h => by simp at h, by simp⟩
  obtain ⟨b, hb, gb⟩ := set_go l1 40 0 600 [] (by omega) (by omega) (by omega) ⟨List.Pairwise.nil, fun x h => by simp at h, by simp⟩
  have la := ga.2.2
  have lb := gb.2.2
  have gc := good_put ga (show (0 : Int) ≤ 99 by decide) (by decide)
  have hpa : laws_isSet.f 600 l0 = some a := ha
  have hpb : laws_isSet.f 600 l1 = some b := hb
  rw [hpa, hpb]
  simp only [Option.bind_some]
  rw [ask_ok a b (good_more ga (by omega)) (good_more gb (by omega)), put_ok a 99 600 (by omega) (by omega)]
  simp only [Option.bind_some]
  rw [ask_ok _ _ (good_more gc (by omega)) (good_more gc (by omega)), same_ok a b (by omega) 600 (by omega)]
  simp only [Option.bind_some]
  rw [both_ok a b false (by omega) (by omega) 600 (by omega), both_ok a b true (by omega) (by omega) 600 (by omega)]
  simp only [Option.bind_some]
  have e1 : decide (∀ x ∈ a, x ∈ b) = (((a.filter fun x => decide (x ∈ b) == false).length : Int) == 0) := by
    rw [Bool.eq_iff_iff, decide_eq_true_iff, beq_iff_eq]
    constructor
    · intro h
      have : (a.filter fun x => decide (x ∈ b) == false) = [] := List.filter_eq_nil_iff.2 fun x hx => by simp [h x hx]
      rw [this]; rfl
    · intro h x hx
      have h2 : (a.filter fun x => decide (x ∈ b) == false) = [] := List.length_eq_zero_iff.1 (by omega)
      have := List.filter_eq_nil_iff.1 h2 x hx
      simpa using this
  have e2 : decide (∃ x ∈ a, x ∈ b) = decide (((a.filter fun x => decide (x ∈ b) == true).length : Int) > 0) := by
    rw [Bool.eq_iff_iff, decide_eq_true_iff, decide_eq_true_iff]
    constructor
    · rintro ⟨x, hx, hxb⟩
      have : x ∈ a.filter fun x => decide (x ∈ b) == true := List.mem_filter.2 ⟨hx, by simp [hxb]⟩
      have := List.length_pos_of_mem this
      omega
    · intro h
      obtain ⟨x, hx⟩ := List.exists_mem_of_length_pos (show 0 < (a.filter fun x => decide (x ∈ b) == true).length by omega)
      obtain ⟨h1, h2⟩ := List.mem_filter.1 hx
      exact ⟨x, h1, by simpa using h2⟩
  have e3 : decide (∃ x ∈ gp 99 a false, x ∈ gp 99 a false) = true := decide_eq_true ⟨99, ((gp_spec 99 a ga.1).2 99).2 (.inl rfl), ((gp_spec 99 a ga.1).2 99).2 (.inl rfl)⟩
  have e4 : decide (∀ x ∈ gp 99 a false, x ∈ gp 99 a false) = true := decide_eq_true fun x hx => hx
  rw [e3, e4]
  rw [if_pos (by simp), if_pos (by rw [e1]; simp), if_pos (by rw [e2]; simp), if_pos (by simp), if_pos rfl]
theorem FnISAsks : laws_FnISAsks.Pure := by
  intro l0 l1 _ _ _ _ _ _
  refine ⟨601, ?_⟩
  unfold laws_FnISAsks.f
  split
  · rw [laws_FnISAsks.j0, if_pos rfl]
  · cases h : (decide ((l1.length : Int) > 2147483647))
    · exact j0_ok l0 l1
    · rw [laws_FnISAsks.j0, if_pos rfl]
end Go.Proofs.YtlghbhkpdlkhjaaDoor.Pure
