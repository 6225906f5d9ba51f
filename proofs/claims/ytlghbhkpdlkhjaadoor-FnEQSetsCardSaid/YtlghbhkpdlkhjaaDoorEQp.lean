/-
  Masks: what addL does to sets that are apart, up to the order. No condition.
-/
import Derived.Test.YtlghbhkpdlkhjaaDoorEQd
namespace Go.Proofs.YtlghbhkpdlkhjaaDoor.PEQ
open Go.RowKit
set_option linter.unusedVariables false

theorem swap_perm {α : Type} : ∀ (l : List α) (i : Nat) (h : i < l.length), l.Perm (l[i] :: ((l.set i (l[l.length - 1]'(by omega))).take (l.length - 1))) := by
  intro l i h
  obtain ⟨a, z, rfl⟩ : ∃ a z, l = a ++ [z] := ⟨l.dropLast, l.getLast (by intro e; simp [e] at h), (List.dropLast_concat_getLast _).symm⟩
  have hl : (a ++ [z]).length - 1 = a.length := by simp
  have hz : (a ++ [z])[(a ++ [z]).length - 1]'(by simp) = z := by simp
  rw [hz]
  rcases Nat.lt_or_ge i a.length with hi | hi
  · rw [List.getElem_append_left hi, List.set_append_left _ _ hi, hl, List.take_append_of_le_length (by simp), List.take_of_length_le (by simp)]
    have h1 : a.Perm (a[i] :: a.eraseIdx i) := by
      rw [List.eraseIdx_eq_take_drop_succ]
      conv => lhs; rw [← List.take_append_drop i a, List.drop_eq_getElem_cons hi]
      exact List.perm_middle
    have h2 : (a.set i z).Perm (z :: a.eraseIdx i) := by
      rw [List.set_eq_take_append_cons_drop, if_pos hi, List.eraseIdx_eq_take_drop_succ]
      exact List.perm_middle
    exact (List.perm_append_comm.trans (List.Perm.cons z h1)).trans ((List.Perm.swap _ _ _).trans (List.Perm.cons _ h2.symm))
  · have e : i = a.length := by simp at h; omega
    subst e
    rw [List.getElem_append_right (Nat.le_refl _), hl]
    simp
def Apart (a b : Nat) : Prop := a &&& b = 0
theorem apart_symm {a b : Nat} (h : Apart a b) : Apart b a := by unfold Apart at *; rw [Nat.and_comm]; exact h
theorem apart_bit {a b : Nat} (h : Apart a b) (j : Nat) : ¬ (a.testBit j = true ∧ b.testBit j = true) := by
  rintro ⟨h1, h2⟩
  have h3 : (a &&& b).testBit j = true := by rw [Nat.testBit_and, h1, h2]; rfl
  rw [h] at h3
  simp at h3
theorem apart_of {a b : Nat} (h : ∀ j, ¬ (a.testBit j = true ∧ b.testBit j = true)) : Apart a b := by
  refine Nat.eq_of_testBit_eq fun j => ?_
  rw [Nat.testBit_and, Nat.zero_testBit]
  cases h1 : a.testBit j <;> cases h2 : b.testBit j <;> simp
  exact h j ⟨h1, h2⟩
theorem apart_or {a b c : Nat} (h1 : Apart a b) (h2 : Apart a c) : Apart a (b ||| c) := apart_of fun j ⟨x, y⟩ => by
  rw [Nat.testBit_or, Bool.or_eq_true] at y
  rcases y with y | y
  · exact apart_bit h1 j ⟨x, y⟩
  · exact apart_bit h2 j ⟨x, y⟩
theorem or_apart {a b c : Nat} (h : Apart a (b ||| c)) : Apart a b ∧ Apart a c :=
  ⟨apart_of fun j ⟨x, y⟩ => apart_bit h j ⟨x, by rw [Nat.testBit_or, y]; rfl⟩, apart_of fun j ⟨x, y⟩ => apart_bit h j ⟨x, by rw [Nat.testBit_or, y]; simp⟩⟩
instance (a b : Nat) : Decidable (Apart a b) := by unfold Apart; infer_instance
/-- what comes of sets l (apart from each other) and one more, m: those that do not meet it, and the union of the others with it -/
structure Res (l : List Nat) (m : Nat) (t : List Nat) : Prop where
  out : ∃ rest u, t = rest ++ [u] ∧ rest.Perm (l.filter fun y => decide (Apart y m)) ∧ ∀ j, u.testBit j = true ↔ m.testBit j = true ∨ ∃ y ∈ l, ¬ Apart y m ∧ y.testBit j = true
theorem Res.perm {l l' : List Nat} {m : Nat} {t t' : List Nat} (h : Res l m t) (h' : Res l' m t') (hp : l.Perm l') : t.Perm t' := by
  obtain ⟨rest, u, rfl, h1, h2⟩ := h
  obtain ⟨rest', u', rfl, h1', h2'⟩ := h'
  have e : u = u' := Nat.eq_of_testBit_eq fun j => by
    rw [Bool.eq_iff_iff, h2 j, h2' j]
    constructor
    · rintro (h | ⟨y, hy, h⟩)
      · exact .inl h
      · exact .inr ⟨y, hp.mem_iff.1 hy, h⟩
    · rintro (h | ⟨y, hy, h⟩)
      · exact .inl h
      · exact .inr ⟨y, hp.mem_iff.2 hy, h⟩
  subst e
  exact ((h1.trans (hp.filter _)).trans h1'.symm).append_right _
theorem addGo_res : ∀ (n : Nat) (l : List Nat) (m i : Nat), l.length - i ≤ n → l.Pairwise Apart → (∀ j (h : j < l.length), j < i → Apart l[j] m) → Res l m (addGo n l m i)
  | 0, l, m, i, hn, hp, hi => by
    have hall : ∀ y ∈ l, Apart y m := fun y hy => by
      obtain ⟨j, hj, rfl⟩ := List.mem_iff_getElem.1 hy
      exact hi j hj (by omega)
    refine ⟨l, m, rfl, ?_, fun j => ⟨.inl, ?_⟩⟩
    · rw [List.filter_eq_self.2 (fun y hy => decide_eq_true (hall y hy))]
    · rintro (h | ⟨y, hy, h, _⟩)
      · exact h
      · exact absurd (hall y hy) h
  | n + 1, l, m, i, hn, hp, hi => by
    unfold addGo
    split
    · rename_i hlt
      split
      · rename_i hm
        have hper := swap_perm l i hlt
        generalize hl2 : (l.set i (l[l.length - 1]'(by omega))).take (l.length - 1) = l2 at hper ⊢
        have hlen2 : l2.length = l.length - 1 := by rw [← hl2, List.length_take, List.length_set]; omega
        have hp2 : (l[i] :: l2).Pairwise Apart := (hper.pairwise_iff apart_symm).1 hp
        obtain ⟨ha, hp3⟩ := List.pairwise_cons.1 hp2
        have hiff : ∀ y ∈ l2, (Apart y (m ||| l[i]) ↔ Apart y m) := fun y hy => ⟨fun h => (or_apart h).1, fun h => apart_or h (apart_symm (ha y hy))⟩
        have ih := addGo_res n l2 (m ||| l[i]) i (by omega) hp3 (fun j hj hji => by
          have e : l2[j] = l[j] := by
            simp only [← hl2, List.getElem_take, List.getElem_set]
            rw [if_neg (by omega)]
          have := hi j (by omega) hji
          rw [← e] at this
          exact (hiff _ (List.getElem_mem _)).2 this)
        obtain ⟨rest, u, e, h1, h2⟩ := ih
        refine ⟨rest, u, e, ?_, fun j => ?_⟩
        · have hf : (l.filter fun y => decide (Apart y m)).Perm (l2.filter fun y => decide (Apart y m)) := by
            refine (hper.filter _).trans ?_
            have hno : ¬ Apart l[i] m := fun h => hm (apart_symm h)
            rw [List.filter_cons_of_neg (by simpa using hno)]
          refine h1.trans (List.Perm.trans ?_ hf.symm)
          have hfc : (l2.filter fun y => decide (Apart y (m ||| l[i]))) = l2.filter fun y => decide (Apart y m) := List.filter_congr (fun y hy => decide_eq_decide.2 (hiff y hy))
          rw [hfc]
        · rw [h2 j, Nat.testBit_or, Bool.or_eq_true]
          constructor
          · rintro ((h | h) | ⟨y, hy, h, hb⟩)
            · exact .inl h
            · exact .inr ⟨l[i], List.getElem_mem _, fun h => hm (apart_symm h), h⟩
            · exact .inr ⟨y, hper.mem_iff.2 (List.mem_cons_of_mem _ hy), fun h3 => h ((hiff y hy).2 h3), hb⟩
          · rintro (h | ⟨y, hy, h, hb⟩)
            · exact .inl (.inl h)
            · rcases List.mem_cons.1 (hper.mem_iff.1 hy) with e | h3
              · subst e; exact .inl (.inr hb)
              · exact .inr ⟨y, h3, fun h4 => h ((hiff y h3).1 h4), hb⟩
      · rename_i hm
        refine addGo_res n l m (i + 1) (by omega) hp (fun j hj hji => ?_)
        rcases Nat.lt_or_ge j i with h | h
        · exact hi j hj h
        · obtain rfl : j = i := by omega
          exact apart_symm (by unfold Apart; simpa using hm)
    · rename_i hge
      have hall : ∀ y ∈ l, Apart y m := fun y hy => by
        obtain ⟨j, hj, rfl⟩ := List.mem_iff_getElem.1 hy
        exact hi j hj (by omega)
      refine ⟨l, m, rfl, ?_, fun j => ⟨.inl, ?_⟩⟩
      · rw [List.filter_eq_self.2 (fun y hy => decide_eq_true (hall y hy))]
      · rintro (h | ⟨y, hy, h, _⟩)
        · exact h
        · exact absurd (hall y hy) h
theorem addL_res (l : List Nat) (m : Nat) (hp : l.Pairwise Apart) : Res l m (addL l m) := addGo_res _ l m 0 (by omega) hp (fun _ _ h => absurd h (by omega))
theorem pair_all : ∀ (l : List Nat), l.Pairwise Apart → ∀ x ∈ l, ∀ y ∈ l, x ≠ y → Apart x y
  | [], _, x, hx, _, _, _ => by simp at hx
  | z :: t, hp, x, hx, y, hy, hne => by
    obtain ⟨a, b⟩ := List.pairwise_cons.1 hp
    rcases List.mem_cons.1 hx with e1 | h1
    · rcases List.mem_cons.1 hy with e2 | h2
      · exact absurd (e1.trans e2.symm) hne
      · exact e1 ▸ a y h2
    · rcases List.mem_cons.1 hy with e2 | h2
      · exact e2 ▸ apart_symm (a x h1)
      · exact pair_all t b x h1 y h2 hne
/-- what comes is apart, and not empty, again -/
theorem Res.apart {l : List Nat} {m : Nat} {t : List Nat} (h : Res l m t) (hp : l.Pairwise Apart) (h0 : ∀ y ∈ l, y ≠ 0) (hm : m ≠ 0) : t.Pairwise Apart ∧ ∀ y ∈ t, y ≠ 0 := by
  obtain ⟨rest, u, rfl, h1, h2⟩ := h
  have hr : ∀ y ∈ rest, y ∈ l ∧ Apart y m := fun y hy => by
    have := List.mem_filter.1 (h1.mem_iff.1 hy)
    exact ⟨this.1, by simpa using this.2⟩
  have hpr : rest.Pairwise Apart := (h1.pairwise_iff apart_symm).2 (hp.sublist List.filter_sublist)
  have hdis : ∀ x ∈ l, ∀ y ∈ l, x ≠ y → Apart x y := by
    intro x hx y hy hne
    exact pair_all l hp x hx y hy hne
  refine ⟨List.pairwise_append.2 ⟨hpr, List.pairwise_singleton _ _, fun y hy z hz => ?_⟩, fun y hy => ?_⟩
  · rw [List.mem_singleton.1 hz]
    refine apart_of fun j ⟨a, b⟩ => ?_
    rcases (h2 j).1 b with b | ⟨x, hx, hxm, b⟩
    · exact apart_bit (hr y hy).2 j ⟨a, b⟩
    · refine apart_bit (hdis y (hr y hy).1 x hx ?_) j ⟨a, b⟩
      rintro rfl
      exact hxm (hr y hy).2
  · rcases List.mem_append.1 hy with h | h
    · exact h0 y (hr y h).1
    · rw [List.mem_singleton.1 h]
      rintro rfl
      apply hm
      refine Nat.eq_of_testBit_eq fun j => ?_
      rw [Nat.zero_testBit]
      cases hb : m.testBit j
      · rfl
      · have := (h2 j).2 (.inl hb)
        simp at this
theorem apart_nodup {l : List Nat} (hp : l.Pairwise Apart) (h0 : ∀ y ∈ l, y ≠ 0) : l.Nodup := by
  unfold List.Nodup
  refine List.Pairwise.imp_of_mem (fun {a b} ha hb h e => ?_) hp
  subst e
  exact h0 a ha (by unfold Apart at h; rwa [Nat.and_self] at h)
end Go.Proofs.YtlghbhkpdlkhjaaDoor.PEQ
