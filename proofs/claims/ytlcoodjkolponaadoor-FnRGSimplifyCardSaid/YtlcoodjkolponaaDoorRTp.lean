/-
  Ranges of a column joined one after the other: plain facts. No condition but that they have values and are in order.
-/
import Derived.Test.YtlcoodjkolponaaDoorRTa
import Derived.Test.YtlcoodjkolponaaDoorRGg
namespace Go.Proofs.YtlcoodjkolponaaDoor.PRR
open Go.RowKit
open Go.Proofs.YtlcoodjkolponaaDoor.PRG (C cmpC cmpK loC hiC)
set_option linter.unusedVariables false
set_option linter.unusedSimpArgs false

def touchS (c r : S44) : Bool := !decide (0 < cmpC (toC c).1 (toC r).2) && decide (cmpC (toC r).1 (toC c).2 ≤ 0)
def hullS (c r : S44) : S44 := ⟨if cmpC (toC c).1 (toC r).1 ≤ 0 then c.f0 else r.f0, if cmpC (toC c).2 (toC r).2 ≤ 0 then r.f1 else c.f1⟩
theorem toC_hull (c r : S44) : toC (hullS c r) = (loC (toC c).1 (toC r).1, hiC (toC c).2 (toC r).2) := by
  unfold hullS loC hiC
  by_cases h1 : cmpC (toC c).1 (toC r).1 ≤ 0 <;> by_cases h2 : cmpC (toC c).2 (toC r).2 ≤ 0 <;> simp only [h1, h2, if_true, if_false] <;> rfl
theorem touch_eq {c r : S44} (X : FullS c) (Y : FullS r) : touchS c r = (decide (lo c ≤ hi r) && decide (lo r ≤ hi c)) := by
  unfold touchS toC
  rw [cmp_sgn _ _ _ _ X.lo Y.hi, cmp_sgn _ _ _ _ Y.lo X.hi, sgn_pos, sgn_le]
  show (!decide (0 < lo c - hi r) && decide (lo r - hi c ≤ 0)) = _
  rw [Bool.eq_iff_iff]; simp only [Bool.and_eq_true, decide_eq_true_eq, Bool.not_eq_true', decide_eq_false_iff_not]; omega
theorem hull_lo {c r : S44} (X : FullS c) (Y : FullS r) : lo (hullS c r) = min (lo c) (lo r) := by
  have h : cmpC (toC c).1 (toC r).1 = sgn (lo c - lo r) := cmp_sgn _ _ _ _ X.lo Y.lo
  have h2 := sgn_le (lo c - lo r)
  by_cases e : cmpC (toC c).1 (toC r).1 ≤ 0
  · have : lo (hullS c r) = lo c := by unfold hullS lo; rw [if_pos e]
    rw [this]; rw [h] at e; simp only [decide_eq_decide] at h2; omega
  · have : lo (hullS c r) = lo r := by unfold hullS lo; rw [if_neg e]
    rw [this]; rw [h] at e; simp only [decide_eq_decide] at h2; omega
theorem hull_hi {c r : S44} (X : FullS c) (Y : FullS r) : hi (hullS c r) = max (hi c) (hi r) := by
  have h : cmpC (toC c).2 (toC r).2 = sgn (hi c - hi r) := cmp_sgn _ _ _ _ X.hi Y.hi
  have h2 := sgn_le (hi c - hi r)
  by_cases e : cmpC (toC c).2 (toC r).2 ≤ 0
  · have : hi (hullS c r) = hi r := by unfold hullS hi; rw [if_pos e]
    rw [this]; rw [h] at e; simp only [decide_eq_decide] at h2; omega
  · have : hi (hullS c r) = hi c := by unfold hullS hi; rw [if_neg e]
    rw [this]; rw [h] at e; simp only [decide_eq_decide] at h2; omega
theorem hull_full {c r : S44} (X : FullS c) (Y : FullS r) : FullS (hullS c r) := by
  refine ⟨?_, ?_, ?_⟩
  · show Fine (if cmpC (toC c).1 (toC r).1 ≤ 0 then c.f0 else r.f0).f0 (if cmpC (toC c).1 (toC r).1 ≤ 0 then c.f0 else r.f0).f1
    split
    · exact X.lo
    · exact Y.lo
  · show Fine (if cmpC (toC c).2 (toC r).2 ≤ 0 then r.f1 else c.f1).f0 (if cmpC (toC c).2 (toC r).2 ≤ 0 then r.f1 else c.f1).f1
    split
    · exact Y.hi
    · exact X.hi
  · have h1 := hull_lo X Y
    have h2 := hull_hi X Y
    have h3 : lo c < hi c := X.lt
    show lo (hullS c r) < hi (hullS c r)
    omega
def mergeS : Option S44 → List S44 → List S44
  | none, [] => []
  | some c, [] => [c]
  | none, r :: l => mergeS (some r) l
  | some c, r :: l => if touchS c r = true then mergeS (some (hullS c r)) l else c :: mergeS (some r) l
def inS (x : S44) (p : Int) : Prop := lo x ≤ p ∧ p < hi x
theorem merge_ok : ∀ (l : List S44) (c : S44), FullS c → (∀ x ∈ l, FullS x) → (∀ x ∈ l, lo c ≤ lo x) → l.Pairwise (fun x y => lo x ≤ lo y) →
    (∀ x ∈ mergeS (some c) l, FullS x ∧ lo c ≤ lo x) ∧ (∀ p, (∃ x ∈ mergeS (some c) l, inS x p) ↔ ∃ x ∈ c :: l, inS x p) ∧ (mergeS (some c) l).Pairwise (fun x y => hi x < lo y) ∧ mergeS (some c) l ≠ []
  | [], c, X, _, _, _ => by
    refine ⟨fun x hx => ?_, fun p => Iff.rfl, List.pairwise_singleton _ _, by simp [mergeS]⟩
    rw [List.mem_singleton.1 hx]
    exact ⟨X, Int.le_refl _⟩
  | r :: l, c, X, hf, hl, hp => by
    have Y := hf r List.mem_cons_self
    have hcr := hl r List.mem_cons_self
    obtain ⟨hp1, hp2⟩ := List.pairwise_cons.1 hp
    have hY : lo r < hi r := Y.lt
    have hX : lo c < hi c := X.lt
    by_cases ht : touchS c r = true
    · have e : mergeS (some c) (r :: l) = mergeS (some (hullS c r)) l := by show (if touchS c r = true then _ else _) = _; rw [if_pos ht]
      have h1 := hull_lo X Y
      have h2 := hull_hi X Y
      obtain ⟨i1, i2, i3, i4⟩ := merge_ok l (hullS c r) (hull_full X Y) (fun x hx => hf x (List.mem_cons_of_mem _ hx)) (fun x hx => by have := hl x (List.mem_cons_of_mem _ hx); omega) hp2
      rw [touch_eq X Y] at ht
      simp only [Bool.and_eq_true, decide_eq_true_eq] at ht
      rw [e]
      refine ⟨fun x hx => ⟨(i1 x hx).1, by have := (i1 x hx).2; omega⟩, fun p => (i2 p).trans ?_, i3, i4⟩
      constructor
      · rintro ⟨x, hx, hin⟩
        rcases List.mem_cons.1 hx with rfl | hx
        · unfold inS at hin
          by_cases hc : p < hi c
          · exact ⟨c, List.mem_cons_self, by unfold inS; omega⟩
          · exact ⟨r, by simp, by unfold inS; omega⟩
        · exact ⟨x, by simp [hx], hin⟩
      · rintro ⟨x, hx, hin⟩
        rcases List.mem_cons.1 hx with rfl | hx
        · exact ⟨hullS x r, List.mem_cons_self, by unfold inS at *; omega⟩
        · rcases List.mem_cons.1 hx with rfl | hx
          · exact ⟨hullS c x, List.mem_cons_self, by unfold inS at *; omega⟩
          · exact ⟨x, by simp [hx], hin⟩
    · have e : mergeS (some c) (r :: l) = c :: mergeS (some r) l := by show (if touchS c r = true then _ else _) = _; rw [if_neg ht]
      obtain ⟨i1, i2, i3, i4⟩ := merge_ok l r Y (fun x hx => hf x (List.mem_cons_of_mem _ hx)) hp1 hp2
      rw [touch_eq X Y] at ht
      simp only [Bool.and_eq_true, decide_eq_true_eq] at ht
      have hgap : hi c < lo r := by omega
      rw [e]
      refine ⟨fun x hx => ?_, fun p => ?_, List.pairwise_cons.2 ⟨fun x hx => by have := (i1 x hx).2; omega, i3⟩, by simp⟩
      · rcases List.mem_cons.1 hx with rfl | hx
        · exact ⟨X, Int.le_refl _⟩
        · exact ⟨(i1 x hx).1, by have := (i1 x hx).2; omega⟩
      · constructor
        · rintro ⟨x, hx, hin⟩
          rcases List.mem_cons.1 hx with rfl | hx
          · exact ⟨x, List.mem_cons_self, hin⟩
          · obtain ⟨y, hy, hy2⟩ := (i2 p).1 ⟨x, hx, hin⟩
            exact ⟨y, List.mem_cons_of_mem _ hy, hy2⟩
        · rintro ⟨x, hx, hin⟩
          rcases List.mem_cons.1 hx with rfl | hx
          · exact ⟨x, List.mem_cons_self, hin⟩
          · obtain ⟨y, hy, hy2⟩ := (i2 p).2 ⟨x, hx, hin⟩
            exact ⟨y, List.mem_cons_of_mem _ hy, hy2⟩
/-- What simplifying gives. -/
structure Simple (out l : List S44) : Prop where
  full : ∀ x ∈ out, FullS x
  cover : ∀ p, (∃ x ∈ out, inS x p) ↔ ∃ x ∈ l, inS x p
  apart : out.Pairwise (fun x y => hi x < lo y)
  some : out ≠ []
  few : out.length ≤ l.length
theorem merge_len : ∀ (l : List S44) (c : Option S44), (mergeS c l).length ≤ l.length + (if c.isSome then 1 else 0)
  | [], none => by simp [mergeS]
  | [], some c => by simp [mergeS]
  | r :: l, none => by
    have h := merge_len l (some r)
    simp only [mergeS, List.length_cons, Option.isSome_some, Option.isSome_none, if_true] at *
    simpa using h
  | r :: l, some c => by
    have h1 := merge_len l (some r)
    have h2 := merge_len l (some (hullS c r))
    simp only [mergeS, Option.isSome_some, if_true, List.length_cons] at *
    split
    · omega
    · simp only [List.length_cons]; omega
theorem simple_of {n : Nat} {d : Array S44} (hd : d.size = n) (h1 : 1 ≤ n) (hf : ∀ x ∈ d.toList, FullS x) : Simple (mergeS none (Go.Sort.insertionSort ltE d 0 n).toList) d.toList := by
  obtain ⟨⟨k1, _, k3⟩, k4⟩ := Go.Sort.insertionSort_holds (lt := ltE) swo_ltE d 0 n (Nat.zero_le _) (by omega)
  generalize Go.Sort.insertionSort ltE d 0 n = d' at *
  have perm : d'.toList.Perm d.toList := by
    rw [show d'.extract 0 n = d' by rw [← hd, ← k1]; simp, show d.extract 0 n = d by rw [← hd]; simp] at k3
    exact k3
  have hf' : ∀ x ∈ d'.toList, FullS x := fun x hx => hf x (perm.mem_iff.1 hx)
  have asc : d'.toList.Pairwise (fun x y => lo x ≤ lo y) := by
    rw [List.pairwise_iff_getElem]
    intro i j hi hj hij
    have hj' : j < d'.size := by simpa using hj
    have h := k4 i j (Nat.zero_le _) hij (by omega)
    rw [getElem!_pos d' j hj', getElem!_pos d' i (by omega)] at h
    have A := hf' _ (List.getElem_mem hi)
    have B := hf' _ (List.getElem_mem hj)
    simp only [Array.getElem_toList] at A B ⊢
    rw [ltE_cmp B A] at h
    unfold toC at h
    rw [cmp_sgn _ _ _ _ B.lo A.lo] at h
    have q : sgn (lo d'[j] - lo d'[i]) = sgn (plc d'[j].f0.f0 d'[j].f0.f1 - plc d'[i].f0.f0 d'[i].f0.f1) := rfl
    rw [← q] at h
    have s := sgn_m (lo d'[j] - lo d'[i])
    unfold sgn at h
    split at h
    · simp at h
    · omega
  have len : d'.toList.length = n := by simpa using k1.trans hd
  match hL : d'.toList with
  | [] => rw [hL] at len; simp at len; omega
  | c :: l =>
    rw [hL] at hf' asc perm
    obtain ⟨p1, p2⟩ := List.pairwise_cons.1 asc
    obtain ⟨i1, i2, i3, i4⟩ := merge_ok l c (hf' c List.mem_cons_self) (fun x hx => hf' x (List.mem_cons_of_mem _ hx)) p1 p2
    have ml := merge_len (c :: l) none
    refine ⟨fun x hx => (i1 x hx).1, fun p => (i2 p).trans ⟨?_, ?_⟩, i3, i4, ?_⟩
    · rintro ⟨x, hx, h⟩; exact ⟨x, perm.mem_iff.1 hx, h⟩
    · rintro ⟨x, hx, h⟩; exact ⟨x, perm.mem_iff.2 hx, h⟩
    · rw [← perm.length_eq]; simpa using ml
end Go.Proofs.YtlcoodjkolponaaDoor.PRR
