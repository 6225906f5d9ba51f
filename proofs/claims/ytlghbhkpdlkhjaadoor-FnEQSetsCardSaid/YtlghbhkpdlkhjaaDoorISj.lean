/-
  Contract of sparse.Equals. Condition: at most 1000 numbers.
-/
import Derived.Test.YtlghbhkpdlkhjaaDoorISi
import Derived.Deep.RegionHeld3
namespace Go.Proofs.YtlghbhkpdlkhjaaDoor.PIS
open Go.RowKit Go.Proofs.YtlghbhkpdlkhjaaDoorW.PrintWords Go.Proofs.YtlghbhkpdlkhjaaDoorW.PrintLast Go.Proofs.YtlghbhkpdlkhjaaDoorW.PrintMore
set_option linter.unusedVariables false
set_option linter.unusedSimpArgs false
set_option maxRecDepth 100000
set_option maxHeartbeats 400000

theorem speq_ok (q1 q2 : Nat) (a b : List Int) (w : World) (h1 : SpAt w q1 a) (h2 : SpAt w q2 b) (ha : a.length ≤ 1000) (hb : b.length ≤ 1000) :
    Calls Tryd.prog 38 #[.pointer (some ⟨q1, 0, none⟩), .pointer (some ⟨q2, 0, none⟩)] w fun e w' => e = .returned (.bool (decide (a.length = b.length) && a.all fun x => hasB x b)) ∧ Below w.heap.size w w' := by
  have HS := Aside0.mk (fun (W : World) (hb' : Below w.heap.size w W) => subset_ok q1 q2 a b W (h1.later hb') (h2.later hb') ha hb)
  obtain ⟨A, c, hbk, hc, hC⟩ := h1
  have h01 : w.cell? ⟨q1, 0, none⟩ = some (.slice A a.length c) := by rw [Lib.cell_of_heap hbk]; rfl
  obtain ⟨B, d, hbk2, hd, hD⟩ := h2
  have h02 : w.cell? ⟨q2, 0, none⟩ = some (.slice B b.length d) := by rw [Lib.cell_of_heap hbk2]; rfl
  clear hbk hbk2 hC hD
  by_cases hn : a.length = b.length
  · rw [hn] at h01 ⊢
    rw [show (decide (b.length = b.length) && a.all fun x => hasB x b) = a.all fun x => hasB x b by simp]
    generalize (a.all fun x => hasB x b) = r at *
    generalize b.length = n at *
    go_enter Tryd.func38, Tryd.ntmps38
    go_wp2
    go_region_held3 (fun W => W.cell? ⟨q1, 0, none⟩ = some (.slice A n c) ∧ W.cell? ⟨q2, 0, none⟩ = some (.slice B n d) ∧ Below w.heap.size w W)
      (first | (go_split_ands; refine ⟨?_, ?_, ?_⟩ <;> assumption) | (go_split_ands; exact ⟨pw_cell_below hb (by assumption), pw_cell_below hb (by assumption), below_step (by assumption) hb⟩) | (refine ⟨?_, ?_, ?_⟩; (iterate 2 (focus (first | assumption | (simp [go_sem, *]; done)))); repeat (first | (with_reducible exact Below.refl _ _) | (with_reducible apply below_alloc) | (with_reducible apply below_drew))))
      (first | (go_at_call 40; refine (HS.out _ (by go_split_ands; assumption)).mono ?_; rintro e w3 ⟨rfl, hw⟩; subst w3))
    all_goals go_wp2
    all_goals go_ret
    all_goals exact ⟨rfl, by repeat (first | (with_reducible exact Below.refl _ _) | (with_reducible apply below_drew) | (with_reducible apply pw_below_drewN) | (with_reducible apply below_drew1))⟩
  · have g : ((a.length : Int) == (b.length : Int)) = false := by simp; omega
    rw [show (decide (a.length = b.length) && a.all fun x => hasB x b) = false by simp [hn]]
    generalize a.length = n at *
    generalize b.length = k at *
    clear HS
    go_enter Tryd.func38, Tryd.ntmps38
    go_wp2
    go_region
    all_goals go_wp2
    all_goals go_ret
    all_goals exact ⟨rfl, by repeat (first | (with_reducible exact Below.refl _ _) | (with_reducible apply below_drew) | (with_reducible apply pw_below_drewN) | (with_reducible apply below_drew1))⟩
end Go.Proofs.YtlghbhkpdlkhjaaDoor.PIS
