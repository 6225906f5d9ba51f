/-
  What impl.LKMatch answers at a pattern that doesn't end with the escape character. Condition: the ten characters of the law, a pattern of at most 12, a text of at most 100; utf8's two tables as laid.
-/
import Derived.Test.YthicaehcoingeaaDoorLKt
import Derived.Test.YthicaehcoingeaaDoorLKc
import Derived.Defers
import Derived.Recover
namespace Go.Proofs.YthicaehcoingeaaDoor.PLK
open Go.RowKit Go.Proofs.YthicaehcoingeaaDoorW.PrintWords Go.Proofs.YthicaehcoingeaaDoorW.PrintLast Go.Proofs.YthicaehcoingeaaDoorW.PrintMore
set_option linter.unusedVariables false
set_option linter.unusedSimpArgs false
set_option maxRecDepth 100000
set_option maxHeartbeats 800000

theorem caught_idle (p : Addr) (w : World) :
    CallsD Tryd.prog 41 #[.pointer (some p)] .returning w fun e u' w' => e = .returned (.tuple #[]) ∧ u' = .returning ∧ w' = w := by
  refine callsD_of_wpS Tryd.func41 rfl fun c₀ cs hu => ?_
  apply wpS_seq
  apply wpS_region
  simp [wpOpsS, go_sem, recoverD, hu, Tryd.ntmps41, Exit.thenS]
  refine wpS_cond (t := false) (by simp [Act.eval, Array.replicate]) ?_
  simp only [Bool.false_eq_true, if_false]
  refine wpS_of_wp (wp_skip ?_)
  cases c₀
  simp_all [bodyPostS, results, Tryd.results41]
theorem new_cell {w w' : World} {v : Value} {t : TypeId} (hb : Below (w.alloc (.cells #[v] t)).heap.size (w.alloc (.cells #[v] t)) w') :
    w'.cell? ⟨w.heap.size, 0, none⟩ = some v ∧ w'.frozen? ⟨w.heap.size, 0, none⟩ = false ∧ Below w.heap.size w w' :=
  ⟨(hb.cell (p := ⟨w.heap.size, 0, none⟩) (by simp)).trans (by simp [go_sem]), (hb.frozen (p := ⟨w.heap.size, 0, none⟩) (by simp)).trans (by simp [go_sem]), below_then (below_alloc (Below.refl _ _) _) (by simp) hb⟩
theorem lk_call (fold : Bool) (p l : List Int) (N : List (Option Int)) (hp : p.all okR = true) (hpl : p.length ≤ 12) (hl : l.all okR = true) (hll : l.length ≤ 100) (hgood : nodes (gF fold) p = some N) (w : World) (hg : Glob w) :
    Calls Tryd.prog 14 #[.bool fold, .string (runesBytes p), .int .i32 92, .string (runesBytes l)] w fun e w' => e = .returned (.tuple #[.bool (mt (gF fold) N l), .bool true]) ∧ Below w.heap.size w w' := by
  have HC := Aside0.mk (fun W hW => construct_ok fold p N hp hpl hgood W hW)
  have HM := Aside0.mk (fun (ns : List ND) (A : Option Addr) (cA : Nat) hnl hwt W hW hN => match_ok fold ns A cA 92 l hl hll hnl hwt W hW hN)
  have HG := Aside0.mk hg
  clear hp hl hgood hg
  generalize runesBytes p = sp at *
  generalize runesBytes l = sl at *
  have hcol : colV fold = .func (.func (if fold then 43 else 42)) #[] #[] := rfl
  rw [hcol] at HC HM
  clear hcol
  cases fold
  all_goals
    simp only [Bool.false_eq_true, if_false, if_true] at HC HM
    go_enter_defers Tryd.func14, Tryd.ntmps14
    go_wp2_with (go_at_call 44; refine (HC.out _ (HG.out.later (below_alloc (Below.refl _ _) _))).mono ?_; rintro e w2 ⟨ns, A, cA, rfl, hN, hn, hwt, hCN, hb⟩; obtain ⟨hc, hz, hB⟩ := new_cell hb; clear hb; have HB := Aside0.mk hB; have HCN := Aside0.mk hCN; have HWT := Aside0.mk hwt; have HNN := Aside0.mk hN; clear hB hCN hwt hN; have hs2 : ¬ w.heap.size = w2.heap.size := (fun h => by have h1 := World.block_lt_of_cell? w2 _ hc; simp at h1; omega))
    refine (HM.out ns A cA hn HWT.out _ (HG.out.later (below_then HB.out HB.out.size (below_alloc (Below.refl _ _) _))) (Kd.C_below HCN.out (below_alloc (Below.refl _ _) _))).mono ?_
    rintro e w4 ⟨rfl, hb4⟩
    rw [HNN.out]
    have hbW := below_then (below_alloc (Below.refl w2.heap.size w2) _) (by simp) hb4
    have hc4 := (hbW.cell (World.block_lt_of_cell? w2 _ hc)).trans hc
    have hz4 := (hbW.frozen (World.block_lt_of_cell? w2 _ hc)).trans hz
    have HB4 := Aside0.mk (below_then HB.out HB.out.size hbW)
    clear hb4 hbW hc hz hs2
    go_wp2
    refine leaves_cons (f := 41) (args := #[.pointer (some ⟨w.heap.size, 0, none⟩)]) (by simp) (by simp [go_sem]) ?_
    refine (caught_idle ⟨w.heap.size, 0, none⟩ _).mono ?_
    rintro e u' w'' ⟨rfl, rfl, rfl⟩
    refine ⟨_, ?_, rfl, ?_⟩
    rotate_left
    · first
      | exact HB4.out.setCell (p := ⟨w.heap.size, 0, none⟩) (Nat.le_refl _) _
      | exact below_drew (HB4.out.setCell (p := ⟨w.heap.size, 0, none⟩) (Nat.le_refl _) _)
    · simp [results, Tryd.results14, go_sem, hc4]
end Go.Proofs.YthicaehcoingeaaDoor.PLK
