/-
  Contracts of sets of columns that are small (masks): Intersects, Union. Condition: no set is large.
-/
import Derived.Test.YtlghbhkpdlkhjaaDoorEQa
import Derived.BigQuiet
import Derived.Deep.QuietTactic
import Derived.RegionTactic
import Derived.ChangeAlike
namespace Go.Proofs.YtlghbhkpdlkhjaaDoor.PEQ
open Go.RowKit Go.Proofs.YtlghbhkpdlkhjaaDoorW.PrintWords Go.Proofs.YtlghbhkpdlkhjaaDoorW.PrintLast Go.Proofs.YtlghbhkpdlkhjaaDoorW.PrintMore
set_option linter.unusedVariables false
set_option linter.unusedSimpArgs false
set_option maxRecDepth 100000
set_option maxHeartbeats 400000

theorem fs_meets (m n : Nat) (hm : m < big) (hn : n < big) (w : World) : Calls Tryd.prog 23 #[cv m, cv n] w fun e w' => e = .returned (.bool (((m &&& n : Nat) : Int) != 0)) ∧ Below w.heap.size w w' := by
  have hand := u64_and_nat m n hm hn
  generalize m &&& n = m3 at *
  clear hm hn
  go_enter Tryd.func23, Tryd.ntmps23
  go_wp2
  go_ret
  exact ⟨by first | rfl | simp [hand], below_then (below_alloc (Below.refl _ _) _) (by simp) (below_alloc (Below.refl _ _) _)⟩
theorem meets_ok (m n : Nat) (hm : m < big) (hn : n < big) (w : World) : Calls Tryd.prog 43 #[cv m, cv n] w fun e w' => e = .returned (.bool (((m &&& n : Nat) : Int) != 0)) ∧ Below w.heap.size w w' := by
  have H := Aside0.mk (fun W => fs_meets m n hm hn W)
  clear hm hn
  have HB := Aside0.mk (below_then (below_alloc (Below.refl w.heap.size w) (.cells #[.int .u64 (m : Int), .pointer none] 55)) (by simp) (below_alloc (Below.refl _ (w.alloc (.cells #[.int .u64 (m : Int), .pointer none] 55))) (.cells #[.int .u64 (n : Int), .pointer none] 55)))
  generalize (((m &&& n : Nat) : Int) != 0) = r at *
  go_enter Tryd.func43, Tryd.ntmps43
  go_wp2_with fail
  refine (H.out _).mono ?_
  rintro e w2 ⟨rfl, hb⟩
  go_wp2_with fail
  go_ret
  exact ⟨rfl, below_then HB.out HB.out.size hb⟩
theorem fs_unionWith (p m n : Nat) (hm : m < big) (hn : n < big) (w : World) (hA : At w p m) : Calls Tryd.prog 50 #[.pointer (some ⟨p, 0, none⟩), cv n] w fun e w' => e = .returned (.tuple #[]) ∧ w' = ((w.setCell ⟨p, 0, none⟩ (.int .u64 ((m ||| n : Nat) : Int))).alloc (.cells #[.int .u64 (n : Int), .pointer none] 46)).drew := by
  have hor := u64_or_nat m n hm hn
  generalize m ||| n = m3 at *
  obtain ⟨hp, h0, h1, z0⟩ := hA
  have hp' : ¬ p = w.heap.size := by omega
  clear hm hn
  go_enter Tryd.func50, Tryd.ntmps50
  go_wp2
  go_region
  all_goals go_wp2
  all_goals
    refine bodyPost_ret (results_none Tryd.results50 _ _ _) rfl ?_
    exact ⟨rfl, rfl⟩
theorem fs_copy (m : Nat) (w : World) : Calls Tryd.prog 53 #[cv m] w fun e w' => e = .returned (cv m) ∧ Below w.heap.size w w' := by
  go_enter Tryd.func53, Tryd.ntmps53
  go_wp2_with fail
  refine bodyPost_ret (v := cv m) (by simp [results, Tryd.results53, go_sem]) rfl ⟨rfl, ?_⟩
  repeat (first | (with_reducible exact Below.refl _ _) | (with_reducible apply below_alloc) | (with_reducible apply below_drew))
theorem fs_union (m n : Nat) (hm : m < big) (hn : n < big) (w : World) : Calls Tryd.prog 54 #[cv m, cv n] w fun e w' => e = .returned (cv (m ||| n)) ∧ Below w.heap.size w w' := by
  have HC := Aside0.mk (fun W => fs_copy m W)
  have HU := Aside0.mk (fun p W => fs_unionWith p m n hm hn W)
  generalize m ||| n = m3 at *
  clear hm hn
  have hW : ∀ (W : World), W = ((w.alloc (.cells #[.int .u64 (m : Int), .pointer none] 46)).alloc (.cells #[.int .u64 (n : Int), .pointer none] 46)).alloc (.cells #[.int .u64 0, .pointer none] 46) → W.heap[w.heap.size + 1]? = some (.cells #[.int .u64 (n : Int), .pointer none] 46 (0, 0)) ∧ W.heap[w.heap.size + 1 + 1]? = some (.cells #[.int .u64 0, .pointer none] 46 (0, 0)) ∧ Below w.heap.size w W ∧ W.heap.size = w.heap.size + 1 + 1 + 1 := fun W h => by
    subst h
    refine ⟨alloc_old (alloc_at _ (by simp)) _, alloc_at _ (by simp), ?_, by simp⟩
    exact ((below_alloc (Below.refl w.heap.size w) _).trans ((below_alloc (Below.refl _ _) _).mono (by simp))).trans ((below_alloc (Below.refl _ _) _).mono (by simp; omega))
  have HW := Aside0.mk (hW _ rfl)
  clear hW
  go_enter Tryd.func54, Tryd.ntmps54
  go_wp2_with fail
  refine (HC.out _).mono ?_
  rintro e w2 ⟨rfl, hb⟩
  obtain ⟨a1, a2, a3, a4⟩ := HW.out
  have b1 := (hb.block _ (blk_lt a1)).trans a1
  have b2 := (hb.block _ (blk_lt a2)).trans a2
  have c0 : w2.cell? ⟨w.heap.size + 1, 0, none⟩ = some (.int .u64 (n : Int)) := by rw [Lib.cell_of_heap b1]; rfl
  have c1 : w2.cell? ⟨w.heap.size + 1, 1, none⟩ = some (.pointer none) := by rw [Lib.cell_of_heap b1]; rfl
  have d0 : w2.cell? ⟨w.heap.size + 1 + 1, 0, none⟩ = some (.int .u64 0) := by rw [Lib.cell_of_heap b2]; rfl
  have d1 : w2.cell? ⟨w.heap.size + 1 + 1, 1, none⟩ = some (.pointer none) := by rw [Lib.cell_of_heap b2]; rfl
  have z0 : w2.frozen? ⟨w.heap.size + 1 + 1, 0, none⟩ = false := Lib.frozen_of_heap b2 _
  have z1 : w2.frozen? ⟨w.heap.size + 1 + 1, 1, none⟩ = false := Lib.frozen_of_heap b2 _
  have hz : w.heap.size + 1 + 1 < w2.heap.size := blk_lt b2
  have hz1 : w.heap.size + 1 < w2.heap.size := by omega
  have hn1 : ¬ w.heap.size + 1 = w2.heap.size := by omega
  have hn2 : ¬ w.heap.size + 1 + 1 = w2.heap.size := by omega
  have hn3 : ¬ w.heap.size + 1 + 1 = w2.heap.size + 1 := by omega
  have HB := Aside0.mk (a3.trans (hb.mono (by omega)))
  have HAt := Aside0.mk (At.of (alloc_at (w := w2) (.cells #[.int .u64 (m : Int), .pointer none] 46) rfl))
  clear HW a1 a2 a3 a4 b1 b2 hb HC
  go_wp2_with fail
  refine (HU.out _ _ HAt.out).mono ?_
  rintro e w3 ⟨rfl, rfl⟩
  go_wp2_with fail
  refine bodyPost_ret (v := cv m3) (by simp [results, Tryd.results54, go_sem, hz, hz1, hn1, hn2, hn3, c0, c1, d0, d1]) rfl ⟨rfl, ?_⟩
  refine below_drew (below_alloc (below_alloc ?_ _) _)
  exact (HB.out.setCell (p := ⟨w.heap.size + 1 + 1, 0, none⟩) (by simp; omega) _).setCell (p := ⟨w.heap.size + 1 + 1, 1, none⟩) (by simp; omega) _
theorem union_ok (m n : Nat) (hm : m < big) (hn : n < big) (w : World) : Calls Tryd.prog 44 #[cv m, cv n] w fun e w' => e = .returned (cv (m ||| n)) ∧ Below w.heap.size w w' := by
  have HU := Aside0.mk (fun W => fs_union m n hm hn W)
  generalize m ||| n = m3 at *
  clear hm hn
  have hW : ∀ (W : World), W = ((w.alloc (.cells #[.int .u64 (m : Int), .pointer none] 55)).alloc (.cells #[.int .u64 (n : Int), .pointer none] 55)).alloc (.cells #[.int .u64 0, .pointer none] 55) → W.heap[w.heap.size + 1 + 1]? = some (.cells #[.int .u64 0, .pointer none] 55 (0, 0)) ∧ Below w.heap.size w W ∧ W.heap.size = w.heap.size + 1 + 1 + 1 := fun W h => by
    subst h
    exact ⟨alloc_at _ (by simp), below_alloc (below_alloc (below_alloc (Below.refl _ _) _) _) _, by simp⟩
  have HW := Aside0.mk (hW _ rfl)
  clear hW
  go_enter Tryd.func44, Tryd.ntmps44
  go_wp2_with fail
  refine (HU.out _).mono ?_
  rintro e w2 ⟨rfl, hb⟩
  obtain ⟨a2, a3, a4⟩ := HW.out
  have b2 := (hb.block _ (blk_lt a2)).trans a2
  have d0 : w2.cell? ⟨w.heap.size + 1 + 1, 0, none⟩ = some (.int .u64 0) := by rw [Lib.cell_of_heap b2]; rfl
  have d1 : w2.cell? ⟨w.heap.size + 1 + 1, 1, none⟩ = some (.pointer none) := by rw [Lib.cell_of_heap b2]; rfl
  have z0 : w2.frozen? ⟨w.heap.size + 1 + 1, 0, none⟩ = false := Lib.frozen_of_heap b2 _
  have z1 : w2.frozen? ⟨w.heap.size + 1 + 1, 1, none⟩ = false := Lib.frozen_of_heap b2 _
  have hz : w.heap.size + 1 + 1 < w2.heap.size := blk_lt b2
  have HB := Aside0.mk (a3.trans (hb.mono (by omega)))
  clear HW a2 a3 a4 b2 hb
  go_wp2_with fail
  refine bodyPost_ret (v := cv m3) (by simp [results, Tryd.results44, go_sem, hz, d0, d1]) rfl ⟨rfl, ?_⟩
  exact (HB.out.setCell (p := ⟨w.heap.size + 1 + 1, 0, none⟩) (by simp; omega) _).setCell (p := ⟨w.heap.size + 1 + 1, 1, none⟩) (by simp; omega) _
end Go.Proofs.YtlghbhkpdlkhjaaDoor.PEQ
