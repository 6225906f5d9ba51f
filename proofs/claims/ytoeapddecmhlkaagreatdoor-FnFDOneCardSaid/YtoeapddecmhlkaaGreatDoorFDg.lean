/-
  Plain facts of the columns from 1 on: what is picked of them, and what a set of them reads as. No condition.
-/
import Derived.Test.YtoeapddecmhlkaaGreatDoorFDa
import Derived.Test.YtoeapddecmhlkaaGreatDoorPFnFDOnex1
import Derived.Test.YtoeapddecmhlkaaGreatDoorPFnFDOnex2
namespace Go.Proofs.YtoeapddecmhlkaaGreatDoor.FD
open Go.RowKit Go.Proofs.YtoeapddecmhlkaaGreatDoor.PFnFDOne
set_option linter.unusedVariables false
set_option maxRecDepth 100000

/-- The columns from 1 to k. -/
def pre (k : Nat) : List Int := (List.range k).map (fun i : Nat => 1 + (i : Int))

theorem pre_next (k : Nat) : pre (k + 1) = pre k ++ [1 + (k : Int)] := by
  unfold pre
  rw [List.range_succ, List.map_append]
  rfl
theorem pre_len (k : Nat) : (pre k).length = k := by unfold pre; simp
def okPick (r : List Int) : Bool := r.all (fun x => decide (1 ≤ x) && decide (x ≤ 64)) && decide (r.length ≤ 1000)
theorem pick_all : ∀ n : Fin 6, ∀ b : Fin 256, (laws_fdPick.f 20 (pre ((n : Nat) + 1)) ((b : Nat) : Int)).map okPick = some true := by decide +kernel
theorem cols_all : ∀ n : Fin 6, colsOf (mk (pre ((n : Nat) + 1))) = pre ((n : Nat) + 1) := by decide +kernel
theorem isof_all : ∀ n : Fin 6, spec_ISOf.f 20 (pre ((n : Nat) + 1)) = some (pre ((n : Nat) + 1)) := by decide +kernel
theorem same_all : ∀ n : Fin 6, spec_ISSame.f 20 (pre ((n : Nat) + 1)) (pre ((n : Nat) + 1)) = some true := by decide +kernel
theorem pick_ok (m n : Nat) (hm : m < 6) (hn : n ≤ 255) : ∃ r, laws_fdPick.f 20 (pre (m + 1)) (n : Int) = some r ∧ (∀ x ∈ r, 1 ≤ x ∧ x ≤ 64) ∧ r.length ≤ 1000 := by
  have h := pick_all ⟨m, hm⟩ ⟨n, by omega⟩
  dsimp only at h
  cases hf : laws_fdPick.f 20 (pre (m + 1)) (n : Int) with
  | none => rw [hf] at h; cases h
  | some r =>
    rw [hf] at h
    simp only [Option.map_some, Option.some.injEq] at h
    unfold okPick at h
    simp only [Bool.and_eq_true, List.all_eq_true, decide_eq_true_eq] at h
    exact ⟨r, rfl, h.1, h.2⟩
theorem cols_in (m : Nat) (hm : m < 6) : (∀ x ∈ pre (m + 1), 1 ≤ x ∧ x ≤ 64) ∧ (pre (m + 1)).length ≤ 1000 := by
  refine ⟨fun x hx => ?_, by rw [pre_len]; omega⟩
  unfold pre at hx
  simp only [List.mem_map, List.mem_range] at hx
  obtain ⟨i, hi, rfl⟩ := hx
  omega
end Go.Proofs.YtoeapddecmhlkaaGreatDoor.FD
