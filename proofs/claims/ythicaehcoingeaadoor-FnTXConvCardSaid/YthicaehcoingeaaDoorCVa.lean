/-
  Contract of strconv.ParseUint at a word of digits and capitals that are digits of the base. Condition: base from 2 to 36, at least one digit, at most 200, the number less than 2^63.
-/
import Derived.Test.YthicaehcoingeaaDoorPTV0
import Derived.LoopTactic
import Derived.BigCall
import Derived.Laws.IdiomStrings
namespace Go.Proofs.YthicaehcoingeaaDoor.PTV
open Go.RowKit Go.Proofs.YthicaehcoingeaaDoorW.PrintWords Go.Proofs.YthicaehcoingeaaDoorW.PrintLast Go.Proofs.YthicaehcoingeaaDoorW.PrintMore
set_option linter.unusedVariables false
set_option linter.unusedSimpArgs false
set_option maxRecDepth 100000

def dg (c : UInt8) : Nat := if c.toNat ≤ 57 then c.toNat - 48 else c.toNat - 55
def isDg (b : Nat) (c : UInt8) : Bool := ((decide (48 ≤ c.toNat) && decide (c.toNat ≤ 57)) || (decide (65 ≤ c.toNat) && decide (c.toNat ≤ 90))) && decide (dg c < b)
def valOf (b : Nat) (l : List UInt8) : Nat := l.foldl (fun n c => n * b + dg c) 0
theorem valOf_take (b : Nat) (l : List UInt8) (j : Nat) (h : j < l.length) : valOf b (l.take (j + 1)) = valOf b (l.take j) * b + dg l[j] := by
  unfold valOf
  rw [List.take_succ_eq_append_getElem h, List.foldl_append]
  rfl
theorem foldl_mono (b : Nat) (hb : 1 ≤ b) : ∀ (l : List UInt8) (n : Nat), n ≤ l.foldl (fun n c => n * b + dg c) n
  | [], n => Nat.le_refl _
  | c :: t, n => by
    refine Nat.le_trans ?_ (foldl_mono b hb t (n * b + dg c))
    have : n * 1 ≤ n * b := Nat.mul_le_mul_left n hb
    omega
theorem valOf_le (b : Nat) (hb : 1 ≤ b) (l : List UInt8) (j : Nat) : valOf b (l.take j) ≤ valOf b l := by
  have h : valOf b l = (l.drop j).foldl (fun n c => n * b + dg c) (valOf b (l.take j)) := by
    unfold valOf
    rw [← List.foldl_append, List.take_append_drop]
  rw [h]
  exact foldl_mono b hb _ _

theorem lower_ok (c : Int) (h0 : 65 ≤ c) (h1 : c ≤ 90) (w : World) : Calls Tryd.prog 134 #[.int .u8 c] w fun e w' => e = .returned (.int .u8 (c + 32)) ∧ w' = w := by
  obtain rfl | rfl | rfl | rfl | rfl | rfl | rfl | rfl | rfl | rfl | rfl | rfl | rfl | rfl | rfl | rfl | rfl | rfl | rfl | rfl | rfl | rfl | rfl | rfl | rfl | rfl : c = 65 ∨ c = 66 ∨ c = 67 ∨ c = 68 ∨ c = 69 ∨ c = 70 ∨ c = 71 ∨ c = 72 ∨ c = 73 ∨ c = 74 ∨ c = 75 ∨ c = 76 ∨ c = 77 ∨ c = 78 ∨ c = 79 ∨ c = 80 ∨ c = 81 ∨ c = 82 ∨ c = 83 ∨ c = 84 ∨ c = 85 ∨ c = 86 ∨ c = 87 ∨ c = 88 ∨ c = 89 ∨ c = 90 := by omega
  all_goals
    go_enter Tryd.func134, Tryd.ntmps134
    go_wp2
    go_ret
    exact ⟨rfl, rfl⟩
end Go.Proofs.YthicaehcoingeaaDoor.PTV
