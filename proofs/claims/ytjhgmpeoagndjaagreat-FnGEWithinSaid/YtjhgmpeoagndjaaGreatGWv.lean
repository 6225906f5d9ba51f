/-
  Contracts of a geometry's value: a point; a polygon of one line. No condition.
-/
import Derived.Test.YtjhgmpeoagndjaaGreatGWh2
namespace Go.Proofs.YtjhgmpeoagndjaaGreat.GE
open Go.RowKit Go.Proofs.YtjhgmpeoagndjaaGreatW.PrintWords Go.Proofs.YtjhgmpeoagndjaaGreatW.PrintLast Go.Proofs.YtjhgmpeoagndjaaGreatW.PrintMore
open Go.Proofs.YtjhgmpeoagndjaaGreat.Flo
set_option linter.unusedVariables false
set_option linter.unusedSimpArgs false
set_option maxRecDepth 100000
set_option maxHeartbeats 4000000

abbrev geoP (g c : Nat) : Value := .agg #[.int .i64 1, .int .u32 0, .slice (some ⟨g, 0, none⟩) 1 c, .slice none 0 0, .slice none 0 0, .slice none 0 0]
abbrev geoR (g c : Nat) : Value := .agg #[.int .i64 3, .int .u32 0, .slice none 0 0, .slice (some ⟨g, 0, none⟩) 1 c, .slice none 0 0, .slice none 0 0]
theorem valueP_ok (g c a b : Nat) (w : World) (hC : kQ.C w (some ⟨g, 0, none⟩) 1 [(a, b)]) :
    Calls Tryz.prog 14 #[geoP g c] w fun e w' => e = .returned (.iface 50 (tp 0 a b)) ∧ Below w.heap.size w w' := by
  have hb := below_alloc (Below.refl w.heap.size w) (.cells #[.int .i64 1, .int .u32 0, .slice (some ⟨g, 0, none⟩) 1 c, .slice none 0 0, .slice none 0 0, .slice none 0 0] 32)
  have H := Aside0.mk (points_ok2 (some ⟨g, 0, none⟩) c [(a, b)] (by simp) (by simp) _ (Kd.C_below hC hb))
  have HB := Aside0.mk hb
  clear hC hb
  go_enter Tryz.func14, Tryz.ntmps14
  go_wp2_with fail
  refine (H.out).mono ?_
  rintro e w2 ⟨gp, cp, rfl, hgp, hp, hb⟩
  have HB2 := Aside0.mk (HB.out.trans (hb.mono (by simp)))
  obtain ⟨ad, he, x0, x1, x2⟩ := at_P hp 0 _ rfl
  cases he
  rw [show ((⟨gp, 0, none⟩ : Addr).add (0 * 3)) = ⟨gp, 0, none⟩ by simp [Addr.add]] at x0 x1 x2
  clear hp hb HB H
  simp only at x0 x1 x2
  go_wp2_with fail
  go_ret
  exact ⟨rfl, HB2.out⟩
theorem valueR_ok (g c c0 : Nat) (A0 : Option Addr) (l : List (Nat × Nat)) (hl : l.length ≤ 1000) (h0 : 0 < l.length) (w : World) (hL : w.cell? ⟨g, 0, none⟩ = some (.slice A0 l.length c0)) (hC : kQ.C w A0 l.length l) :
    Calls Tryz.prog 14 #[geoR g c] w fun e w' => ∃ v, e = .returned (.iface 58 (.agg #[.int .u32 0, v])) ∧ Line w' v l ∧ Below w.heap.size w w' := by
  have H := Aside0.mk (fun W (h : Below w.heap.size w W) => lines_ok g c c0 A0 l hl h0 W (pw_cell_below h hL) (Kd.C_below hC h))
  clear hC hL
  go_enter Tryz.func14, Tryz.ntmps14
  go_wp2
  refine wp_region_noPanic ?_
  refine wp_region_held_drew (S := fun W => W.cell? ⟨w.heap.size, 1, none⟩ = some (.int .u32 0) ∧ W.cell? ⟨w.heap.size, 3, none⟩ = some (.slice (some ⟨g, 0, none⟩) 1 c) ∧ Below w.heap.size w W) (by kernel_rfl) ?_ (fun hHeld => ?_)
  · (first | (go_split_ands; refine ⟨?_, ?_, ?_⟩ <;> assumption) | (go_split_ands; exact ⟨pw_cell_below hb (by assumption), pw_cell_below hb (by assumption), below_step (by assumption) hb⟩) | (refine ⟨?_, ?_, ?_⟩; (iterate 2 (focus (first | assumption | (simp [go_sem]; done) | (simp [go_sem, *]; done)))); repeat (first | (with_reducible exact Below.refl _ _) | (with_reducible apply below_drew) | (with_reducible apply below_alloc))))
  refine take_ (oi := ?oi1) (i := 0) (N := some 36) (v := ?v1) ?hi1 (by kernel_rfl) (by kernel_rfl) (by kernel_rfl) ?hQ1 ?hN1 (Or.inl ⟨?hw1, ?hy1⟩) (by assumption) ?rest1
  case hi1 => simp only [List.getElem?_toArray, List.getElem?_cons_zero, List.getElem?_cons_succ]; rfl
  case hQ1 => exact fun _ _ _ h => h
  case hN1 => rfl
  case hw1 => rfl
  case hy1 => intro W hSw; (try dsimp only at hSw); go_split_ands; go_simp; (try with_reducible rfl)
  simp only [Act.put, List.setIfInBounds_toArray, List.set_cons_zero, List.set_cons_succ]
  refine take_ (oi := ?oi2) (i := 1) (N := some 37) (v := ?v2) ?hi2 (by kernel_rfl) (by kernel_rfl) (by kernel_rfl) ?hQ2 ?hN2 (Or.inl ⟨?hw2, ?hy2⟩) (by assumption) ?rest2
  case hi2 => simp only [List.getElem?_toArray, List.getElem?_cons_zero, List.getElem?_cons_succ]; rfl
  case hQ2 => exact fun _ _ _ h => h
  case hN2 => rfl
  case hw2 => rfl
  case hy2 => intro W hSw; (try dsimp only at hSw); go_split_ands; go_simp; (try with_reducible rfl)
  simp only [Act.put, List.setIfInBounds_toArray, List.set_cons_zero, List.set_cons_succ]
  refine take_ (oi := ?oi3) (i := 2) (N := some 38) (v := ?v3) ?hi3 (by kernel_rfl) (by kernel_rfl) (by kernel_rfl) ?hQ3 ?hN3 (Or.inl ⟨?hw3, ?hy3⟩) (by assumption) ?rest3
  case hi3 => simp only [List.getElem?_toArray, List.getElem?_cons_zero, List.getElem?_cons_succ]; rfl
  case hQ3 => exact fun _ _ _ h => h
  case hN3 => rfl
  case hw3 => rfl
  case hy3 => intro W hSw; (try dsimp only at hSw); go_split_ands; go_simp; (try with_reducible rfl)
  simp only [Act.put, List.setIfInBounds_toArray, List.set_cons_zero, List.set_cons_succ]
  refine take_ (oi := ?oi4) (i := 3) (N := some 39) (v := ?v4) ?hi4 (by kernel_rfl) (by kernel_rfl) (by kernel_rfl) ?hQ4 ?hN4 (Or.inl ⟨?hw4, ?hy4⟩) (by assumption) ?rest4
  case hi4 => simp only [List.getElem?_toArray, List.getElem?_cons_zero, List.getElem?_cons_succ]; rfl
  case hQ4 => exact fun _ _ _ h => h
  case hN4 => rfl
  case hw4 => rfl
  case hy4 => intro W hSw; (try dsimp only at hSw); go_split_ands; go_simp; (try with_reducible rfl)
  simp only [Act.put, List.setIfInBounds_toArray, List.set_cons_zero, List.set_cons_succ]
  refine take_ (oi := ?oi5) (i := 4) (N := some 40) (v := ?v5) ?hi5 (by kernel_rfl) (by kernel_rfl) (by kernel_rfl) ?hQ5 ?hN5 (Or.inl ⟨?hw5, ?hy5⟩) (by assumption) ?rest5
  case hi5 => simp only [List.getElem?_toArray, List.getElem?_cons_zero, List.getElem?_cons_succ]; rfl
  case hQ5 => exact fun _ _ _ h => h
  case hN5 => rfl
  case hw5 => rfl
  case hy5 => intro W hSw; (try dsimp only at hSw); go_split_ands; go_simp; (try with_reducible rfl)
  simp only [Act.put, List.setIfInBounds_toArray, List.set_cons_zero, List.set_cons_succ]
  refine take_ (oi := ?oi6) (i := 5) (N := some 41) (v := ?v6) ?hi6 (by kernel_rfl) (by kernel_rfl) (by kernel_rfl) ?hQ6 ?hN6 (Or.inl ⟨?hw6, ?hy6⟩) (by assumption) ?rest6
  case hi6 => simp only [List.getElem?_toArray, List.getElem?_cons_zero, List.getElem?_cons_succ]; rfl
  case hQ6 => exact fun _ _ _ h => h
  case hN6 => rfl
  case hw6 => rfl
  case hy6 => intro W hSw; (try dsimp only at hSw); go_split_ands; go_simp; (try with_reducible rfl)
  simp only [Act.put, List.setIfInBounds_toArray, List.set_cons_zero, List.set_cons_succ]
  refine wpAnyH_ready (rs := [6]) (by kernel_rfl) (by simp) ?_
  refine AllReadyH.cons (o := ?oi7) ?hi7 (fun K hK => ?step7) AllReadyH.nil
  case hi7 => simp only [List.getElem?_toArray, List.getElem?_cons_zero, List.getElem?_cons_succ]; rfl
  refine goes_ (N := some 42) Tryz.func23 (by kernel_rfl) rfl #[.slice (some ⟨g, 0, none⟩) 1 c, .int .u32 0] (by rfl) rfl rfl (by (try simp only [List.map_toArray, List.map_cons, List.map_nil]); rfl) ?_
  refine (H.out _ (by go_split_ands; assumption)).mono ?_
  rintro e v6 ⟨v, rfl, hr, hb⟩
  have HR := Aside0.mk hr
  obtain ⟨g5, c5, gp, cp, rfl, h6⟩ := hr
  clear h6
  refine ⟨_, rfl, ?_⟩
  refine hK.out _ _ ?_ (fun hHeld => ?_)
  · (first | (go_split_ands; refine ⟨?_, ?_, ?_⟩ <;> assumption) | (go_split_ands; exact ⟨pw_cell_below hb (by assumption), pw_cell_below hb (by assumption), below_step (by assumption) hb⟩) | (refine ⟨?_, ?_, ?_⟩; (iterate 2 (focus (first | assumption | (simp [go_sem]; done) | (simp [go_sem, *]; done)))); repeat (first | (with_reducible exact Below.refl _ _) | (with_reducible apply below_drew) | (with_reducible apply below_alloc))))
  clear hK K
  simp only [Act.put, List.setIfInBounds_toArray, List.set_cons_zero, List.set_cons_succ]
  refine take_ (oi := ?oi8) (i := 7) (N := some 43) (v := ?v8) ?hi8 (by kernel_rfl) (by kernel_rfl) (by kernel_rfl) ?hQ8 ?hN8 (Or.inl ⟨?hw8, ?hy8⟩) (by assumption) ?rest8
  case hi8 => simp only [List.getElem?_toArray, List.getElem?_cons_zero, List.getElem?_cons_succ]; rfl
  case hQ8 => exact fun _ _ _ h => h
  case hN8 => rfl
  case hw8 => rfl
  case hy8 => intro W hSw; (try dsimp only at hSw); go_split_ands; go_simp; (try with_reducible rfl)
  simp only [Act.put, List.setIfInBounds_toArray, List.set_cons_zero, List.set_cons_succ]
  refine take_ (oi := ?oi9) (i := 8) (N := some 44) (v := ?v9) ?hi9 (by kernel_rfl) (by kernel_rfl) (by kernel_rfl) ?hQ9 ?hN9 (Or.inl ⟨?hw9, ?hy9⟩) (by assumption) ?rest9
  case hi9 => simp only [List.getElem?_toArray, List.getElem?_cons_zero, List.getElem?_cons_succ]; rfl
  case hQ9 => exact fun _ _ _ h => h
  case hN9 => rfl
  case hw9 => rfl
  case hy9 => intro W hSw; (try dsimp only at hSw); go_split_ands; go_simp; (try with_reducible rfl)
  simp only [Act.put, List.setIfInBounds_toArray, List.set_cons_zero, List.set_cons_succ]
  refine take_ (oi := ?oi10) (i := 9) (N := some 2) (v := ?v10) ?hi10 (by kernel_rfl) (by kernel_rfl) (by kernel_rfl) ?hQ10 ?hN10 (Or.inl ⟨?hw10, ?hy10⟩) (by assumption) ?rest10
  case hi10 => simp only [List.getElem?_toArray, List.getElem?_cons_zero, List.getElem?_cons_succ]; rfl
  case hQ10 => exact fun _ _ _ h => h
  case hN10 => rfl
  case hw10 => rfl
  case hy10 => intro W hSw; (try dsimp only at hSw); go_split_ands; go_simp; (try with_reducible rfl)
  simp only [Act.put, List.setIfInBounds_toArray, List.set_cons_zero, List.set_cons_succ]
  refine wpAnyH_done (by kernel_rfl) ?_ _
  refine NoPanic.normal ?_
  go_wp2
  go_ret
  go_split_ands
  exact ⟨_, rfl, HR.out, by assumption⟩
end Go.Proofs.YtjhgmpeoagndjaaGreat.GE
