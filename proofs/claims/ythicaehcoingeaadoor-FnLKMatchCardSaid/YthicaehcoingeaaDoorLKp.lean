/-
  laws.lkText: characters of the ten ones, at most so many. No condition.
-/
import Derived.Test.YthicaehcoingeaaDoorLKs
import Derived.OpenShut
namespace Go.Proofs.YthicaehcoingeaaDoor.PLK
open Go.RowKit Go.Proofs.YthicaehcoingeaaDoorW.PrintWords Go.Proofs.YthicaehcoingeaaDoorW.PrintLast Go.Proofs.YthicaehcoingeaaDoorW.PrintMore
set_option linter.unusedVariables false
theorem char_ok (x : Int) (h0 : 0 ≤ x) (h1 : x ≤ 255) : 0 ≤ Int.tmod x 13 ∧ Int.tmod x 13 < 13 ∧ okR (rd ([97, 65, 98, 37, 95, 92, 66, 233, 29483, 37, 95, 97, 120] : List Int) (Int.tmod x 13)) = true := by
  have e : Int.tmod x 13 = x % 13 := Int.tmod_eq_emod_of_nonneg h0
  rw [e]
  refine ⟨by omega, by omega, ?_⟩
  have hx : x % 13 = 0 ∨ x % 13 = 1 ∨ x % 13 = 2 ∨ x % 13 = 3 ∨ x % 13 = 4 ∨ x % 13 = 5 ∨ x % 13 = 6 ∨ x % 13 = 7 ∨ x % 13 = 8 ∨ x % 13 = 9 ∨ x % 13 = 10 ∨ x % 13 = 11 ∨ x % 13 = 12 := by omega
  rcases hx with h | h | h | h | h | h | h | h | h | h | h | h | h <;> rw [h] <;> decide
theorem text_go (l : List Int) (most : Nat) (hm : most ≤ 100) (hw : ∀ i, 0 ≤ rd l i ∧ rd l i ≤ 255) : ∀ (d k i : Nat) (acc : List Int), most - i = d → i ≤ most → d < k → acc.length = i → acc.all okR = true →
    ∃ r, laws_lkText.l0 k l most acc i = some r ∧ r.all okR = true ∧ r.length ≤ most := by
  intro d
  induction d with
  | zero =>
    intro k i acc hd hi hk ha hok
    obtain ⟨k, rfl⟩ : ∃ m, k = m + 1 := ⟨k - 1, by omega⟩
    refine ⟨acc, ?_, hok, by omega⟩
    rw [laws_lkText.l0]
    by_cases h : (i : Int) < (l.length : Int)
    · rw [if_pos h, if_neg (by omega)]
    · rw [if_neg h]
  | succ d ih =>
    intro k i acc hd hi hk ha hok
    obtain ⟨k, rfl⟩ : ∃ m, k = m + 1 := ⟨k - 1, by omega⟩
    rw [laws_lkText.l0]
    by_cases h : (i : Int) < (l.length : Int)
    · obtain ⟨c1, c2, c3⟩ := char_ok (rd l i) (hw i).1 (hw i).2
      rw [if_pos h, if_pos (by omega), Option.bind_some, if_pos (by omega), if_pos c1, if_pos (by simpa using c2), if_pos (by omega)]
      have hw64 : wrap64 ((i : Int) + 1) = ((i + 1 : Nat) : Int) := by unfold wrap64; omega
      rw [hw64]
      refine ih k (i + 1) _ (by omega) (by omega) (by omega) (by rw [List.length_append, ha]; rfl) ?_
      rw [List.all_append, hok]
      simpa using c3
    · rw [if_neg h]
      exact ⟨acc, rfl, hok, by omega⟩
theorem text_ok (l : List Int) (most : Nat) (hm : most ≤ 100) (hl : ∀ x ∈ l, (Lit.int .u8 x).wf = true) : ∃ r, laws_lkText.f 200 l most = some r ∧ r.all okR = true ∧ r.length ≤ most := by
  have hw : ∀ i, 0 ≤ rd l i ∧ rd l i ≤ 255 := by
    intro i
    unfold rd
    rw [List.getD_eq_getElem?_getD]
    rcases Nat.lt_or_ge i.toNat l.length with h | h
    · rw [List.getElem?_eq_getElem h]
      have h1 := hl _ (List.getElem_mem h)
      simp only [Lit.wf, Bool.and_eq_true, decide_eq_true_eq] at h1
      exact h1
    · rw [List.getElem?_eq_none h]
      exact ⟨Int.le_refl _, by decide⟩
  exact text_go l most hm hw most 200 0 [] (by omega) (by omega) (by omega) rfl rfl
end Go.Proofs.YthicaehcoingeaaDoor.PLK
