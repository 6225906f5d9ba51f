/-
  Contract of rangeColumnExprSlice's method Swap: two ranges change places. No condition but the bounds.
-/
import Derived.Test.YtlcoodjkolponaaDoorRTa
import Derived.BigRegion
namespace Go.Proofs.YtlcoodjkolponaaDoor.PRR
open Go.RowKit Go.Proofs.YtlcoodjkolponaaDoorW.PrintWords Go.Proofs.YtlcoodjkolponaaDoorW.PrintLast Go.Proofs.YtlcoodjkolponaaDoorW.PrintMore
open Go.Sort (swp swp_get swp_size)
open Go.Proofs.YtlcoodjkolponaaDoor.PRG (C cmpC typV)
set_option linter.unusedVariables false
set_option linter.unusedSimpArgs false
set_option maxRecDepth 100000
set_option maxHeartbeats 4000000

theorem flat_set3 (x : S44) : ∀ (l : List S44) (i : Nat), i < l.length → (((l.flatMap eS).set (i * 3) (.iface (toC x).1.ty (toC x).1.pay)).set (i * 3 + 1) (.iface (toC x).2.ty (toC x).2.pay)).set (i * 3 + 2) typV = (l.set i x).flatMap eS
  | y :: l, 0, _ => rfl
  | y :: l, i + 1, h => by
    have ih := flat_set3 x l i (by simpa using h)
    rw [List.set_cons_succ, List.flatMap_cons, List.flatMap_cons, ← ih]
    rw [show (i + 1) * 3 = i * 3 + 3 by omega]
    rfl
theorem set3 {W : World} {g : Nat} {l : List S44} (i : Nat) (x : S44) (h : i < l.length) (hr : W.heap[g]? = some (.cells (rowE l) 96 (0, 0))) :
    ((W.setCell ⟨g, i * 3, none⟩ (.iface (toC x).1.ty (toC x).1.pay)).setCell ⟨g, i * 3 + 1, none⟩ (.iface (toC x).2.ty (toC x).2.pay)).setCell ⟨g, i * 3 + 2, none⟩ typV = W.setRow g (rowE (l.set i x)) := by
  have h1 := setRow_heap W g _ ((rowE l).setIfInBounds (i * 3) (.iface (toC x).1.ty (toC x).1.pay)) 96 (0, 0) hr
  rw [setCell_eq_setRow W g (i * 3) (rowE l) 96 (0, 0) _ hr, setCell_eq_setRow _ g (i * 3 + 1) _ 96 (0, 0) _ h1, setRow_setRow]
  have h2 := setRow_heap W g _ (((rowE l).setIfInBounds (i * 3) (.iface (toC x).1.ty (toC x).1.pay)).setIfInBounds (i * 3 + 1) (.iface (toC x).2.ty (toC x).2.pay)) 96 (0, 0) hr
  rw [setCell_eq_setRow _ g (i * 3 + 2) _ 96 (0, 0) _ h2, setRow_setRow]
  congr 1
  apply Array.ext'
  simp only [rowE, Array.toList_setIfInBounds]
  exact flat_set3 x l i h
theorem swap203_ok {w0 : World} {g rb n : Nat} {d : Array S44} {V : World} (h : Srs w0 g rb n d V) (hg : w0.heap.size ≤ g) (h1 : rb ≠ g) (hn : n ≤ 1000) (i j : Nat) (hi : i < n) (hj : j < n) (hij : i ≠ j) :
    Calls Tryd.prog 203 #[.pointer (some ⟨rb, 0, none⟩), .int .i64 (i : Int), .int .i64 (j : Int)] V fun e w' => e = .returned (.tuple #[]) ∧ Srs w0 g rb n (swp d i j) w' := by
  have hs := h.size
  have r0 : V.cell? ⟨rb, 0, none⟩ = some (.slice (some ⟨g, 0, none⟩) n n) := by rw [blk_cell h.box]; rfl
  have cell : ∀ k u, k < n → u < 3 → V.cell? ⟨g, k * 3 + u, none⟩ = (eS d[k]!)[u]? := fun k u hk hu => by
    rw [blk_cell h.row]
    unfold rowE
    rw [List.getElem?_toArray, flat_get d.toList k u (by simpa using by omega) hu, Array.getElem_toList, ← getElem!_pos d k (by omega)]
  have i0 : V.cell? ⟨g, i * 3, none⟩ = some (.iface (toC d[i]!).1.ty (toC d[i]!).1.pay) := cell i 0 hi (by omega)
  have i1 : V.cell? ⟨g, i * 3 + 1, none⟩ = some (.iface (toC d[i]!).2.ty (toC d[i]!).2.pay) := cell i 1 hi (by omega)
  have i2 : V.cell? ⟨g, i * 3 + 2, none⟩ = some typV := cell i 2 hi (by omega)
  have j0 : V.cell? ⟨g, j * 3, none⟩ = some (.iface (toC d[j]!).1.ty (toC d[j]!).1.pay) := cell j 0 hj (by omega)
  have j1 : V.cell? ⟨g, j * 3 + 1, none⟩ = some (.iface (toC d[j]!).2.ty (toC d[j]!).2.pay) := cell j 1 hj (by omega)
  have j2 : V.cell? ⟨g, j * 3 + 2, none⟩ = some typV := cell j 2 hj (by omega)
  have fz : ∀ o, V.frozen? ⟨g, o, none⟩ = false := fun o => blk_frozen h.row o
  have fi0 := fz (i * 3)
  have fi1 := fz (i * 3 + 1)
  have fi2 := fz (i * 3 + 2)
  have fj0 := fz (j * 3)
  have fj1 := fz (j * 3 + 1)
  have fj2 := fz (j * 3 + 2)
  clear cell fz
  have H := Aside0.mk h
  clear h
  generalize hp : toC d[i]! = p at *
  generalize hq : toC d[j]! = q at *
  have n00 : ¬ i * 3 = j * 3 := by omega
  have m00 : ¬ j * 3 = i * 3 := by omega
  have n01 : ¬ i * 3 = j * 3 + 1 := by omega
  have m01 : ¬ j * 3 + 1 = i * 3 := by omega
  have n02 : ¬ i * 3 = j * 3 + 2 := by omega
  have m02 : ¬ j * 3 + 2 = i * 3 := by omega
  have n10 : ¬ i * 3 + 1 = j * 3 := by omega
  have m10 : ¬ j * 3 = i * 3 + 1 := by omega
  have n11 : ¬ i * 3 + 1 = j * 3 + 1 := by omega
  have m11 : ¬ j * 3 + 1 = i * 3 + 1 := by omega
  have n12 : ¬ i * 3 + 1 = j * 3 + 2 := by omega
  have m12 : ¬ j * 3 + 2 = i * 3 + 1 := by omega
  have n20 : ¬ i * 3 + 2 = j * 3 := by omega
  have m20 : ¬ j * 3 = i * 3 + 2 := by omega
  have n21 : ¬ i * 3 + 2 = j * 3 + 1 := by omega
  have m21 : ¬ j * 3 + 1 = i * 3 + 2 := by omega
  have n22 : ¬ i * 3 + 2 = j * 3 + 2 := by omega
  have m22 : ¬ j * 3 + 2 = i * 3 + 2 := by omega
  go_enter Tryd.func203, Tryd.ntmps203
  go_wp2
  go_region
  go_end0
  refine ⟨rfl, ?_⟩
  subst hp hq
  have h := H.out
  have hw1 := set3 (W := V) (g := g) (l := d.toList) i d[j]! (by simpa using (show i < d.size by omega)) h.row
  have hr1 := setRow_heap V g _ (rowE (d.toList.set i d[j]!)) 96 (0, 0) h.row
  have hw2 := set3 (W := V.setRow g (rowE (d.toList.set i d[j]!))) (g := g) (l := d.toList.set i d[j]!) j d[i]! (by simpa using (show j < d.size by omega)) hr1
  rw [setRow_setRow] at hw2
  have hsw : (swp d i j).toList = (d.toList.set i d[j]!).set j d[i]! := by unfold swp; simp only [Array.toList_setIfInBounds]
  rw [← hsw] at hw2
  rw [show (((((V.setCell ⟨g, i * 3, none⟩ (.iface (toC d[j]!).1.ty (toC d[j]!).1.pay)).setCell ⟨g, i * 3 + 1, none⟩ (.iface (toC d[j]!).2.ty (toC d[j]!).2.pay)).setCell ⟨g, i * 3 + 2, none⟩ typV).setCell ⟨g, j * 3, none⟩ (.iface (toC d[i]!).1.ty (toC d[i]!).1.pay)).setCell ⟨g, j * 3 + 1, none⟩ (.iface (toC d[i]!).2.ty (toC d[i]!).2.pay)).setCell ⟨g, j * 3 + 2, none⟩ typV = V.setRow g (rowE (swp d i j).toList) by rw [hw1]; exact hw2]
  refine Srs.step (W := V.setRow g (rowE (swp d i j).toList)) ⟨below_setRow h.below hg _, setRow_heap V g _ _ 96 (0, 0) h.row, (setRow_other V g rb _ h1).trans h.box, by rw [swp_size]; exact hs, fun k hk => ?_⟩ (below_drew (Below.refl _ _))
  rw [swp_get d (by omega) (by omega) k]
  split
  · exact h.full i hi
  · split
    · exact h.full j hj
    · exact h.full k hk
end Go.Proofs.YtlcoodjkolponaaDoor.PRR
