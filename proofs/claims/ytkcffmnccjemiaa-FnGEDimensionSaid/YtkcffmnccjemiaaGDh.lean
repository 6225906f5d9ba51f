/-
  Contracts of Geo.value at a flat geometry: of what type it is. Condition: geFlat's.
-/
import Derived.Test.YtkcffmnccjemiaaGDg
import Derived.Test.YtkcffmnccjemiaaGDd
namespace Go.Proofs.Ytkcffmnccjemiaa.GD
open Go.RowKit Go.Proofs.YtkcffmnccjemiaaW.PrintWords Go.Proofs.YtkcffmnccjemiaaW.PrintLast Go.Proofs.YtkcffmnccjemiaaW.PrintMore
set_option linter.unusedVariables false
set_option linter.unusedSimpArgs false
set_option maxRecDepth 100000
set_option maxHeartbeats 1000000

/-- An interface value of a type. -/
def OfType (e : Ending) (t : Nat) : Prop := ∃ u, e = .returned (.iface t u)
theorem val2_ok (s : Int) (A2 A3 A4 A5 : Option Addr) (c2 c3 c4 n5 c5 : Nat) (l2 : List (Nat × Nat)) (l3 : List (List (Nat × Nat))) (l4 : List (List (List (Nat × Nat)))) (w : World) (hL : Lays w A2 A3 A4 l2 l3 l4) (h2 : l2.length ≤ 1000) :
    Calls Try.prog 12 #[gv 2 s A2 A3 A4 A5 l2.length c2 l3.length c3 l4.length c4 n5 c5] w fun e w' => OfType e 47 ∧ Below w.heap.size w w' := by
  have hB := below_alloc (Below.refl w.heap.size w) (go 2 s A2 A3 A4 A5 l2.length c2 l3.length c3 l4.length c4 n5 c5)
  have hN := heap_alloc_new w (go 2 s A2 A3 A4 A5 l2.length c2 l3.length c3 l4.length c4 n5 c5)
  have H := Aside0.mk (fun W (h : Below w.heap.size w W) => points_ok s A2 c2 l2 h2 W (hL.below h).1)
  have HB := Aside0.mk hB
  generalize l2.length = m2 at *
  generalize l3.length = m3 at *
  generalize l4.length = m4 at *
  clear hL hB
  go_enter Try.func12, Try.ntmps12
  go_wp2
  generalize w.alloc (go 2 s A2 A3 A4 A5 m2 c2 m3 c3 m4 c4 n5 c5) = V at *
  have hN : V.heap[w.heap.size]? = some (go 2 s A2 A3 A4 A5 m2 c2 m3 c3 m4 c4 n5 c5) := hN
  obtain ⟨x0, x1, x2, x3, x4, x5⟩ := cells6 hN
  refine wp_region_noPanic ?_
  refine wp_region_held_drew (S := fun W => Below V.heap.size V W) (by kernel_rfl) ?_ (fun hHeld => ?_)
  · exact below_drew (Below.refl _ _)
  refine take_ (oi := ?oi1) (i := 0) (N := some 25) (v := ?v1) ?hi1 (by kernel_rfl) (by kernel_rfl) (by kernel_rfl) ?hQ1 ?hN1 (Or.inl ⟨?hw1, ?hy1⟩) hHeld ?rest1
  case hi1 => simp only [List.getElem?_toArray, List.getElem?_cons_zero, List.getElem?_cons_succ]; rfl
  case hQ1 => exact fun _ _ _ h => h
  case hN1 => rfl
  case hw1 => rfl
  case hy1 => intro W hSw; have z0 := pw_cell_below (show Below _ _ W from hSw) x1; have z1 := pw_cell_below (show Below _ _ W from hSw) x2; have z2 := pw_cell_below (show Below _ _ W from hSw) x3; have z3 := pw_cell_below (show Below _ _ W from hSw) x4; go_simp; (try with_reducible rfl)
  simp only [Act.put, List.setIfInBounds_toArray, List.set_cons_zero, List.set_cons_succ]
  refine take_ (oi := ?oi2) (i := 1) (N := some 26) (v := ?v2) ?hi2 (by kernel_rfl) (by kernel_rfl) (by kernel_rfl) ?hQ2 ?hN2 (Or.inl ⟨?hw2, ?hy2⟩) hHeld ?rest2
  case hi2 => simp only [List.getElem?_toArray, List.getElem?_cons_zero, List.getElem?_cons_succ]; rfl
  case hQ2 => exact fun _ _ _ h => h
  case hN2 => rfl
  case hw2 => rfl
  case hy2 => intro W hSw; have z0 := pw_cell_below (show Below _ _ W from hSw) x1; have z1 := pw_cell_below (show Below _ _ W from hSw) x2; have z2 := pw_cell_below (show Below _ _ W from hSw) x3; have z3 := pw_cell_below (show Below _ _ W from hSw) x4; go_simp; (try with_reducible rfl)
  simp only [Act.put, List.setIfInBounds_toArray, List.set_cons_zero, List.set_cons_succ]
  refine take_ (oi := ?oi3) (i := 2) (N := some 27) (v := ?v3) ?hi3 (by kernel_rfl) (by kernel_rfl) (by kernel_rfl) ?hQ3 ?hN3 (Or.inl ⟨?hw3, ?hy3⟩) hHeld ?rest3
  case hi3 => simp only [List.getElem?_toArray, List.getElem?_cons_zero, List.getElem?_cons_succ]; rfl
  case hQ3 => exact fun _ _ _ h => h
  case hN3 => rfl
  case hw3 => rfl
  case hy3 => intro W hSw; have z0 := pw_cell_below (show Below _ _ W from hSw) x1; have z1 := pw_cell_below (show Below _ _ W from hSw) x2; have z2 := pw_cell_below (show Below _ _ W from hSw) x3; have z3 := pw_cell_below (show Below _ _ W from hSw) x4; go_simp; (try with_reducible rfl)
  simp only [Act.put, List.setIfInBounds_toArray, List.set_cons_zero, List.set_cons_succ]
  refine take_ (oi := ?oi4) (i := 3) (N := some 28) (v := ?v4) ?hi4 (by kernel_rfl) (by kernel_rfl) (by kernel_rfl) ?hQ4 ?hN4 (Or.inl ⟨?hw4, ?hy4⟩) hHeld ?rest4
  case hi4 => simp only [List.getElem?_toArray, List.getElem?_cons_zero, List.getElem?_cons_succ]; rfl
  case hQ4 => exact fun _ _ _ h => h
  case hN4 => rfl
  case hw4 => rfl
  case hy4 => intro W hSw; have z0 := pw_cell_below (show Below _ _ W from hSw) x1; have z1 := pw_cell_below (show Below _ _ W from hSw) x2; have z2 := pw_cell_below (show Below _ _ W from hSw) x3; have z3 := pw_cell_below (show Below _ _ W from hSw) x4; go_simp; (try with_reducible rfl)
  simp only [Act.put, List.setIfInBounds_toArray, List.set_cons_zero, List.set_cons_succ]
  refine take_ (oi := ?oi5) (i := 4) (N := some 29) (v := ?v5) ?hi5 (by kernel_rfl) (by kernel_rfl) (by kernel_rfl) ?hQ5 ?hN5 (Or.inl ⟨?hw5, ?hy5⟩) hHeld ?rest5
  case hi5 => simp only [List.getElem?_toArray, List.getElem?_cons_zero, List.getElem?_cons_succ]; rfl
  case hQ5 => exact fun _ _ _ h => h
  case hN5 => rfl
  case hw5 => rfl
  case hy5 => intro W hSw; have z0 := pw_cell_below (show Below _ _ W from hSw) x1; have z1 := pw_cell_below (show Below _ _ W from hSw) x2; have z2 := pw_cell_below (show Below _ _ W from hSw) x3; have z3 := pw_cell_below (show Below _ _ W from hSw) x4; go_simp; (try with_reducible rfl)
  simp only [Act.put, List.setIfInBounds_toArray, List.set_cons_zero, List.set_cons_succ]
  refine take_ (oi := ?oi6) (i := 5) (N := some 30) (v := ?v6) ?hi6 (by kernel_rfl) (by kernel_rfl) (by kernel_rfl) ?hQ6 ?hN6 (Or.inl ⟨?hw6, ?hy6⟩) hHeld ?rest6
  case hi6 => simp only [List.getElem?_toArray, List.getElem?_cons_zero, List.getElem?_cons_succ]; rfl
  case hQ6 => exact fun _ _ _ h => h
  case hN6 => rfl
  case hw6 => rfl
  case hy6 => intro W hSw; have z0 := pw_cell_below (show Below _ _ W from hSw) x1; have z1 := pw_cell_below (show Below _ _ W from hSw) x2; have z2 := pw_cell_below (show Below _ _ W from hSw) x3; have z3 := pw_cell_below (show Below _ _ W from hSw) x4; go_simp; (try with_reducible rfl)
  simp only [Act.put, List.setIfInBounds_toArray, List.set_cons_zero, List.set_cons_succ]
  refine wpAnyH_ready (rs := [6]) (by kernel_rfl) (by simp) ?_
  refine AllReadyH.cons (o := ?oi7) ?hi7 (fun K hK => ?step7) AllReadyH.nil
  case hi7 => simp only [List.getElem?_toArray, List.getElem?_cons_zero, List.getElem?_cons_succ]; rfl
  refine goes_ (N := some 31) Try.func15 (by kernel_rfl) rfl #[.slice A2 m2 c2, .int .u32 s] (by rfl) rfl rfl (by (try simp only [List.map_toArray, List.map_cons, List.map_nil]); rfl) ?_
  refine (H.out _ (below_step HB.out hHeld)).mono ?_
  rintro e v6 ⟨v, rfl, hR, hb⟩
  obtain ⟨A9, c9, rfl⟩ := Kd.R_slice hR
  clear hR
  refine ⟨_, rfl, ?_⟩
  refine hK.out _ _ (below_step hHeld hb) (fun hHeld => ?_)
  clear hK K hb
  simp only [Act.put, List.setIfInBounds_toArray, List.set_cons_zero, List.set_cons_succ]
  refine take_ (oi := ?oi8) (i := 7) (N := some 32) (v := ?v8) ?hi8 (by kernel_rfl) (by kernel_rfl) (by kernel_rfl) ?hQ8 ?hN8 (Or.inl ⟨?hw8, ?hy8⟩) hHeld ?rest8
  case hi8 => simp only [List.getElem?_toArray, List.getElem?_cons_zero, List.getElem?_cons_succ]; rfl
  case hQ8 => exact fun _ _ _ h => h
  case hN8 => rfl
  case hw8 => rfl
  case hy8 => intro W hSw; have z0 := pw_cell_below (show Below _ _ W from hSw) x1; have z1 := pw_cell_below (show Below _ _ W from hSw) x2; have z2 := pw_cell_below (show Below _ _ W from hSw) x3; have z3 := pw_cell_below (show Below _ _ W from hSw) x4; go_simp; (try with_reducible rfl)
  simp only [Act.put, List.setIfInBounds_toArray, List.set_cons_zero, List.set_cons_succ]
  refine take_ (oi := ?oi9) (i := 8) (N := some 33) (v := ?v9) ?hi9 (by kernel_rfl) (by kernel_rfl) (by kernel_rfl) ?hQ9 ?hN9 (Or.inl ⟨?hw9, ?hy9⟩) hHeld ?rest9
  case hi9 => simp only [List.getElem?_toArray, List.getElem?_cons_zero, List.getElem?_cons_succ]; rfl
  case hQ9 => exact fun _ _ _ h => h
  case hN9 => rfl
  case hw9 => rfl
  case hy9 => intro W hSw; have z0 := pw_cell_below (show Below _ _ W from hSw) x1; have z1 := pw_cell_below (show Below _ _ W from hSw) x2; have z2 := pw_cell_below (show Below _ _ W from hSw) x3; have z3 := pw_cell_below (show Below _ _ W from hSw) x4; go_simp; (try with_reducible rfl)
  simp only [Act.put, List.setIfInBounds_toArray, List.set_cons_zero, List.set_cons_succ]
  refine take_ (oi := ?oi10) (i := 9) (N := some 2) (v := ?v10) ?hi10 (by kernel_rfl) (by kernel_rfl) (by kernel_rfl) ?hQ10 ?hN10 (Or.inl ⟨?hw10, ?hy10⟩) hHeld ?rest10
  case hi10 => simp only [List.getElem?_toArray, List.getElem?_cons_zero, List.getElem?_cons_succ]; rfl
  case hQ10 => exact fun _ _ _ h => h
  case hN10 => rfl
  case hw10 => rfl
  case hy10 => intro W hSw; have z0 := pw_cell_below (show Below _ _ W from hSw) x1; have z1 := pw_cell_below (show Below _ _ W from hSw) x2; have z2 := pw_cell_below (show Below _ _ W from hSw) x3; have z3 := pw_cell_below (show Below _ _ W from hSw) x4; go_simp; (try with_reducible rfl)
  simp only [Act.put, List.setIfInBounds_toArray, List.set_cons_zero, List.set_cons_succ]
  refine wpAnyH_done (by kernel_rfl) ?_ _
  refine NoPanic.normal ?_
  have HBz := Aside0.mk (below_step HB.out hHeld)
  go_wp2
  go_ret
  exact ⟨⟨_, rfl⟩, HBz.out⟩
theorem val3_ok (s : Int) (A2 A3 A4 A5 : Option Addr) (c2 c3 c4 n5 c5 : Nat) (l2 : List (Nat × Nat)) (l3 : List (List (Nat × Nat))) (l4 : List (List (List (Nat × Nat)))) (w : World) (hL : Lays w A2 A3 A4 l2 l3 l4) (h3 : l3.length ≤ 1000 ∧ ∀ x ∈ l3, x.length ≤ 1000) :
    Calls Try.prog 12 #[gv 3 s A2 A3 A4 A5 l2.length c2 l3.length c3 l4.length c4 n5 c5] w fun e w' => OfType e 51 ∧ Below w.heap.size w w' := by
  have hB := below_alloc (Below.refl w.heap.size w) (go 3 s A2 A3 A4 A5 l2.length c2 l3.length c3 l4.length c4 n5 c5)
  have hN := heap_alloc_new w (go 3 s A2 A3 A4 A5 l2.length c2 l3.length c3 l4.length c4 n5 c5)
  have H := Aside0.mk (fun W (h : Below w.heap.size w W) => lines2_ok s A3 c3 l3 h3.1 h3.2 W (hL.below h).2.1)
  have HB := Aside0.mk hB
  generalize l2.length = m2 at *
  generalize l3.length = m3 at *
  generalize l4.length = m4 at *
  clear hL hB
  go_enter Try.func12, Try.ntmps12
  go_wp2
  generalize w.alloc (go 3 s A2 A3 A4 A5 m2 c2 m3 c3 m4 c4 n5 c5) = V at *
  have hN : V.heap[w.heap.size]? = some (go 3 s A2 A3 A4 A5 m2 c2 m3 c3 m4 c4 n5 c5) := hN
  obtain ⟨x0, x1, x2, x3, x4, x5⟩ := cells6 hN
  refine wp_region_noPanic ?_
  refine wp_region_held_drew (S := fun W => Below V.heap.size V W) (by kernel_rfl) ?_ (fun hHeld => ?_)
  · exact below_drew (Below.refl _ _)
  refine take_ (oi := ?oi11) (i := 0) (N := some 36) (v := ?v11) ?hi11 (by kernel_rfl) (by kernel_rfl) (by kernel_rfl) ?hQ11 ?hN11 (Or.inl ⟨?hw11, ?hy11⟩) hHeld ?rest11
  case hi11 => simp only [List.getElem?_toArray, List.getElem?_cons_zero, List.getElem?_cons_succ]; rfl
  case hQ11 => exact fun _ _ _ h => h
  case hN11 => rfl
  case hw11 => rfl
  case hy11 => intro W hSw; have z0 := pw_cell_below (show Below _ _ W from hSw) x1; have z1 := pw_cell_below (show Below _ _ W from hSw) x2; have z2 := pw_cell_below (show Below _ _ W from hSw) x3; have z3 := pw_cell_below (show Below _ _ W from hSw) x4; go_simp; (try with_reducible rfl)
  simp only [Act.put, List.setIfInBounds_toArray, List.set_cons_zero, List.set_cons_succ]
  refine take_ (oi := ?oi12) (i := 1) (N := some 37) (v := ?v12) ?hi12 (by kernel_rfl) (by kernel_rfl) (by kernel_rfl) ?hQ12 ?hN12 (Or.inl ⟨?hw12, ?hy12⟩) hHeld ?rest12
  case hi12 => simp only [List.getElem?_toArray, List.getElem?_cons_zero, List.getElem?_cons_succ]; rfl
  case hQ12 => exact fun _ _ _ h => h
  case hN12 => rfl
  case hw12 => rfl
  case hy12 => intro W hSw; have z0 := pw_cell_below (show Below _ _ W from hSw) x1; have z1 := pw_cell_below (show Below _ _ W from hSw) x2; have z2 := pw_cell_below (show Below _ _ W from hSw) x3; have z3 := pw_cell_below (show Below _ _ W from hSw) x4; go_simp; (try with_reducible rfl)
  simp only [Act.put, List.setIfInBounds_toArray, List.set_cons_zero, List.set_cons_succ]
  refine take_ (oi := ?oi13) (i := 2) (N := some 38) (v := ?v13) ?hi13 (by kernel_rfl) (by kernel_rfl) (by kernel_rfl) ?hQ13 ?hN13 (Or.inl ⟨?hw13, ?hy13⟩) hHeld ?rest13
  case hi13 => simp only [List.getElem?_toArray, List.getElem?_cons_zero, List.getElem?_cons_succ]; rfl
  case hQ13 => exact fun _ _ _ h => h
  case hN13 => rfl
  case hw13 => rfl
  case hy13 => intro W hSw; have z0 := pw_cell_below (show Below _ _ W from hSw) x1; have z1 := pw_cell_below (show Below _ _ W from hSw) x2; have z2 := pw_cell_below (show Below _ _ W from hSw) x3; have z3 := pw_cell_below (show Below _ _ W from hSw) x4; go_simp; (try with_reducible rfl)
  simp only [Act.put, List.setIfInBounds_toArray, List.set_cons_zero, List.set_cons_succ]
  refine take_ (oi := ?oi14) (i := 3) (N := some 39) (v := ?v14) ?hi14 (by kernel_rfl) (by kernel_rfl) (by kernel_rfl) ?hQ14 ?hN14 (Or.inl ⟨?hw14, ?hy14⟩) hHeld ?rest14
  case hi14 => simp only [List.getElem?_toArray, List.getElem?_cons_zero, List.getElem?_cons_succ]; rfl
  case hQ14 => exact fun _ _ _ h => h
  case hN14 => rfl
  case hw14 => rfl
  case hy14 => intro W hSw; have z0 := pw_cell_below (show Below _ _ W from hSw) x1; have z1 := pw_cell_below (show Below _ _ W from hSw) x2; have z2 := pw_cell_below (show Below _ _ W from hSw) x3; have z3 := pw_cell_below (show Below _ _ W from hSw) x4; go_simp; (try with_reducible rfl)
  simp only [Act.put, List.setIfInBounds_toArray, List.set_cons_zero, List.set_cons_succ]
  refine take_ (oi := ?oi15) (i := 4) (N := some 40) (v := ?v15) ?hi15 (by kernel_rfl) (by kernel_rfl) (by kernel_rfl) ?hQ15 ?hN15 (Or.inl ⟨?hw15, ?hy15⟩) hHeld ?rest15
  case hi15 => simp only [List.getElem?_toArray, List.getElem?_cons_zero, List.getElem?_cons_succ]; rfl
  case hQ15 => exact fun _ _ _ h => h
  case hN15 => rfl
  case hw15 => rfl
  case hy15 => intro W hSw; have z0 := pw_cell_below (show Below _ _ W from hSw) x1; have z1 := pw_cell_below (show Below _ _ W from hSw) x2; have z2 := pw_cell_below (show Below _ _ W from hSw) x3; have z3 := pw_cell_below (show Below _ _ W from hSw) x4; go_simp; (try with_reducible rfl)
  simp only [Act.put, List.setIfInBounds_toArray, List.set_cons_zero, List.set_cons_succ]
  refine take_ (oi := ?oi16) (i := 5) (N := some 41) (v := ?v16) ?hi16 (by kernel_rfl) (by kernel_rfl) (by kernel_rfl) ?hQ16 ?hN16 (Or.inl ⟨?hw16, ?hy16⟩) hHeld ?rest16
  case hi16 => simp only [List.getElem?_toArray, List.getElem?_cons_zero, List.getElem?_cons_succ]; rfl
  case hQ16 => exact fun _ _ _ h => h
  case hN16 => rfl
  case hw16 => rfl
  case hy16 => intro W hSw; have z0 := pw_cell_below (show Below _ _ W from hSw) x1; have z1 := pw_cell_below (show Below _ _ W from hSw) x2; have z2 := pw_cell_below (show Below _ _ W from hSw) x3; have z3 := pw_cell_below (show Below _ _ W from hSw) x4; go_simp; (try with_reducible rfl)
  simp only [Act.put, List.setIfInBounds_toArray, List.set_cons_zero, List.set_cons_succ]
  refine wpAnyH_ready (rs := [6]) (by kernel_rfl) (by simp) ?_
  refine AllReadyH.cons (o := ?oi17) ?hi17 (fun K hK => ?step17) AllReadyH.nil
  case hi17 => simp only [List.getElem?_toArray, List.getElem?_cons_zero, List.getElem?_cons_succ]; rfl
  refine goes_ (N := some 42) Try.func16 (by kernel_rfl) rfl #[.slice A3 m3 c3, .int .u32 s] (by rfl) rfl rfl (by (try simp only [List.map_toArray, List.map_cons, List.map_nil]); rfl) ?_
  refine (H.out _ (below_step HB.out hHeld)).mono ?_
  rintro e v6 ⟨⟨A9, n9, c9, rfl⟩, hb⟩
  refine ⟨_, rfl, ?_⟩
  refine hK.out _ _ (below_step hHeld hb) (fun hHeld => ?_)
  clear hK K hb
  simp only [Act.put, List.setIfInBounds_toArray, List.set_cons_zero, List.set_cons_succ]
  refine take_ (oi := ?oi18) (i := 7) (N := some 43) (v := ?v18) ?hi18 (by kernel_rfl) (by kernel_rfl) (by kernel_rfl) ?hQ18 ?hN18 (Or.inl ⟨?hw18, ?hy18⟩) hHeld ?rest18
  case hi18 => simp only [List.getElem?_toArray, List.getElem?_cons_zero, List.getElem?_cons_succ]; rfl
  case hQ18 => exact fun _ _ _ h => h
  case hN18 => rfl
  case hw18 => rfl
  case hy18 => intro W hSw; have z0 := pw_cell_below (show Below _ _ W from hSw) x1; have z1 := pw_cell_below (show Below _ _ W from hSw) x2; have z2 := pw_cell_below (show Below _ _ W from hSw) x3; have z3 := pw_cell_below (show Below _ _ W from hSw) x4; go_simp; (try with_reducible rfl)
  simp only [Act.put, List.setIfInBounds_toArray, List.set_cons_zero, List.set_cons_succ]
  refine take_ (oi := ?oi19) (i := 8) (N := some 44) (v := ?v19) ?hi19 (by kernel_rfl) (by kernel_rfl) (by kernel_rfl) ?hQ19 ?hN19 (Or.inl ⟨?hw19, ?hy19⟩) hHeld ?rest19
  case hi19 => simp only [List.getElem?_toArray, List.getElem?_cons_zero, List.getElem?_cons_succ]; rfl
  case hQ19 => exact fun _ _ _ h => h
  case hN19 => rfl
  case hw19 => rfl
  case hy19 => intro W hSw; have z0 := pw_cell_below (show Below _ _ W from hSw) x1; have z1 := pw_cell_below (show Below _ _ W from hSw) x2; have z2 := pw_cell_below (show Below _ _ W from hSw) x3; have z3 := pw_cell_below (show Below _ _ W from hSw) x4; go_simp; (try with_reducible rfl)
  simp only [Act.put, List.setIfInBounds_toArray, List.set_cons_zero, List.set_cons_succ]
  refine take_ (oi := ?oi20) (i := 9) (N := some 2) (v := ?v20) ?hi20 (by kernel_rfl) (by kernel_rfl) (by kernel_rfl) ?hQ20 ?hN20 (Or.inl ⟨?hw20, ?hy20⟩) hHeld ?rest20
  case hi20 => simp only [List.getElem?_toArray, List.getElem?_cons_zero, List.getElem?_cons_succ]; rfl
  case hQ20 => exact fun _ _ _ h => h
  case hN20 => rfl
  case hw20 => rfl
  case hy20 => intro W hSw; have z0 := pw_cell_below (show Below _ _ W from hSw) x1; have z1 := pw_cell_below (show Below _ _ W from hSw) x2; have z2 := pw_cell_below (show Below _ _ W from hSw) x3; have z3 := pw_cell_below (show Below _ _ W from hSw) x4; go_simp; (try with_reducible rfl)
  simp only [Act.put, List.setIfInBounds_toArray, List.set_cons_zero, List.set_cons_succ]
  refine wpAnyH_done (by kernel_rfl) ?_ _
  refine NoPanic.normal ?_
  have HBz := Aside0.mk (below_step HB.out hHeld)
  go_wp2
  go_ret
  exact ⟨⟨_, rfl⟩, HBz.out⟩
theorem val4_ok (s : Int) (A2 A3 A4 A5 : Option Addr) (c2 c3 c4 n5 c5 : Nat) (l2 : List (Nat × Nat)) (l3 : List (List (Nat × Nat))) (l4 : List (List (List (Nat × Nat)))) (w : World) (hL : Lays w A2 A3 A4 l2 l3 l4) (h2 : l2.length ≤ 1000) :
    Calls Try.prog 12 #[gv 4 s A2 A3 A4 A5 l2.length c2 l3.length c3 l4.length c4 n5 c5] w fun e w' => OfType e 46 ∧ Below w.heap.size w w' := by
  have hB := below_alloc (Below.refl w.heap.size w) (go 4 s A2 A3 A4 A5 l2.length c2 l3.length c3 l4.length c4 n5 c5)
  have hN := heap_alloc_new w (go 4 s A2 A3 A4 A5 l2.length c2 l3.length c3 l4.length c4 n5 c5)
  have H := Aside0.mk (fun W (h : Below w.heap.size w W) => points_ok s A2 c2 l2 h2 W (hL.below h).1)
  have HB := Aside0.mk hB
  generalize l2.length = m2 at *
  generalize l3.length = m3 at *
  generalize l4.length = m4 at *
  clear hL hB
  go_enter Try.func12, Try.ntmps12
  go_wp2
  generalize w.alloc (go 4 s A2 A3 A4 A5 m2 c2 m3 c3 m4 c4 n5 c5) = V at *
  have hN : V.heap[w.heap.size]? = some (go 4 s A2 A3 A4 A5 m2 c2 m3 c3 m4 c4 n5 c5) := hN
  obtain ⟨x0, x1, x2, x3, x4, x5⟩ := cells6 hN
  refine wp_region_noPanic ?_
  refine wp_region_held_drew (S := fun W => Below V.heap.size V W) (by kernel_rfl) ?_ (fun hHeld => ?_)
  · exact below_drew (Below.refl _ _)
  refine take_ (oi := ?oi21) (i := 0) (N := some 47) (v := ?v21) ?hi21 (by kernel_rfl) (by kernel_rfl) (by kernel_rfl) ?hQ21 ?hN21 (Or.inl ⟨?hw21, ?hy21⟩) hHeld ?rest21
  case hi21 => simp only [List.getElem?_toArray, List.getElem?_cons_zero, List.getElem?_cons_succ]; rfl
  case hQ21 => exact fun _ _ _ h => h
  case hN21 => rfl
  case hw21 => rfl
  case hy21 => intro W hSw; have z0 := pw_cell_below (show Below _ _ W from hSw) x1; have z1 := pw_cell_below (show Below _ _ W from hSw) x2; have z2 := pw_cell_below (show Below _ _ W from hSw) x3; have z3 := pw_cell_below (show Below _ _ W from hSw) x4; go_simp; (try with_reducible rfl)
  simp only [Act.put, List.setIfInBounds_toArray, List.set_cons_zero, List.set_cons_succ]
  refine take_ (oi := ?oi22) (i := 1) (N := some 48) (v := ?v22) ?hi22 (by kernel_rfl) (by kernel_rfl) (by kernel_rfl) ?hQ22 ?hN22 (Or.inl ⟨?hw22, ?hy22⟩) hHeld ?rest22
  case hi22 => simp only [List.getElem?_toArray, List.getElem?_cons_zero, List.getElem?_cons_succ]; rfl
  case hQ22 => exact fun _ _ _ h => h
  case hN22 => rfl
  case hw22 => rfl
  case hy22 => intro W hSw; have z0 := pw_cell_below (show Below _ _ W from hSw) x1; have z1 := pw_cell_below (show Below _ _ W from hSw) x2; have z2 := pw_cell_below (show Below _ _ W from hSw) x3; have z3 := pw_cell_below (show Below _ _ W from hSw) x4; go_simp; (try with_reducible rfl)
  simp only [Act.put, List.setIfInBounds_toArray, List.set_cons_zero, List.set_cons_succ]
  refine take_ (oi := ?oi23) (i := 2) (N := some 49) (v := ?v23) ?hi23 (by kernel_rfl) (by kernel_rfl) (by kernel_rfl) ?hQ23 ?hN23 (Or.inl ⟨?hw23, ?hy23⟩) hHeld ?rest23
  case hi23 => simp only [List.getElem?_toArray, List.getElem?_cons_zero, List.getElem?_cons_succ]; rfl
  case hQ23 => exact fun _ _ _ h => h
  case hN23 => rfl
  case hw23 => rfl
  case hy23 => intro W hSw; have z0 := pw_cell_below (show Below _ _ W from hSw) x1; have z1 := pw_cell_below (show Below _ _ W from hSw) x2; have z2 := pw_cell_below (show Below _ _ W from hSw) x3; have z3 := pw_cell_below (show Below _ _ W from hSw) x4; go_simp; (try with_reducible rfl)
  simp only [Act.put, List.setIfInBounds_toArray, List.set_cons_zero, List.set_cons_succ]
  refine take_ (oi := ?oi24) (i := 3) (N := some 50) (v := ?v24) ?hi24 (by kernel_rfl) (by kernel_rfl) (by kernel_rfl) ?hQ24 ?hN24 (Or.inl ⟨?hw24, ?hy24⟩) hHeld ?rest24
  case hi24 => simp only [List.getElem?_toArray, List.getElem?_cons_zero, List.getElem?_cons_succ]; rfl
  case hQ24 => exact fun _ _ _ h => h
  case hN24 => rfl
  case hw24 => rfl
  case hy24 => intro W hSw; have z0 := pw_cell_below (show Below _ _ W from hSw) x1; have z1 := pw_cell_below (show Below _ _ W from hSw) x2; have z2 := pw_cell_below (show Below _ _ W from hSw) x3; have z3 := pw_cell_below (show Below _ _ W from hSw) x4; go_simp; (try with_reducible rfl)
  simp only [Act.put, List.setIfInBounds_toArray, List.set_cons_zero, List.set_cons_succ]
  refine take_ (oi := ?oi25) (i := 4) (N := some 51) (v := ?v25) ?hi25 (by kernel_rfl) (by kernel_rfl) (by kernel_rfl) ?hQ25 ?hN25 (Or.inl ⟨?hw25, ?hy25⟩) hHeld ?rest25
  case hi25 => simp only [List.getElem?_toArray, List.getElem?_cons_zero, List.getElem?_cons_succ]; rfl
  case hQ25 => exact fun _ _ _ h => h
  case hN25 => rfl
  case hw25 => rfl
  case hy25 => intro W hSw; have z0 := pw_cell_below (show Below _ _ W from hSw) x1; have z1 := pw_cell_below (show Below _ _ W from hSw) x2; have z2 := pw_cell_below (show Below _ _ W from hSw) x3; have z3 := pw_cell_below (show Below _ _ W from hSw) x4; go_simp; (try with_reducible rfl)
  simp only [Act.put, List.setIfInBounds_toArray, List.set_cons_zero, List.set_cons_succ]
  refine take_ (oi := ?oi26) (i := 5) (N := some 52) (v := ?v26) ?hi26 (by kernel_rfl) (by kernel_rfl) (by kernel_rfl) ?hQ26 ?hN26 (Or.inl ⟨?hw26, ?hy26⟩) hHeld ?rest26
  case hi26 => simp only [List.getElem?_toArray, List.getElem?_cons_zero, List.getElem?_cons_succ]; rfl
  case hQ26 => exact fun _ _ _ h => h
  case hN26 => rfl
  case hw26 => rfl
  case hy26 => intro W hSw; have z0 := pw_cell_below (show Below _ _ W from hSw) x1; have z1 := pw_cell_below (show Below _ _ W from hSw) x2; have z2 := pw_cell_below (show Below _ _ W from hSw) x3; have z3 := pw_cell_below (show Below _ _ W from hSw) x4; go_simp; (try with_reducible rfl)
  simp only [Act.put, List.setIfInBounds_toArray, List.set_cons_zero, List.set_cons_succ]
  refine wpAnyH_ready (rs := [6]) (by kernel_rfl) (by simp) ?_
  refine AllReadyH.cons (o := ?oi27) ?hi27 (fun K hK => ?step27) AllReadyH.nil
  case hi27 => simp only [List.getElem?_toArray, List.getElem?_cons_zero, List.getElem?_cons_succ]; rfl
  refine goes_ (N := some 53) Try.func15 (by kernel_rfl) rfl #[.slice A2 m2 c2, .int .u32 s] (by rfl) rfl rfl (by (try simp only [List.map_toArray, List.map_cons, List.map_nil]); rfl) ?_
  refine (H.out _ (below_step HB.out hHeld)).mono ?_
  rintro e v6 ⟨v, rfl, hR, hb⟩
  obtain ⟨A9, c9, rfl⟩ := Kd.R_slice hR
  clear hR
  refine ⟨_, rfl, ?_⟩
  refine hK.out _ _ (below_step hHeld hb) (fun hHeld => ?_)
  clear hK K hb
  simp only [Act.put, List.setIfInBounds_toArray, List.set_cons_zero, List.set_cons_succ]
  refine take_ (oi := ?oi28) (i := 7) (N := some 54) (v := ?v28) ?hi28 (by kernel_rfl) (by kernel_rfl) (by kernel_rfl) ?hQ28 ?hN28 (Or.inl ⟨?hw28, ?hy28⟩) hHeld ?rest28
  case hi28 => simp only [List.getElem?_toArray, List.getElem?_cons_zero, List.getElem?_cons_succ]; rfl
  case hQ28 => exact fun _ _ _ h => h
  case hN28 => rfl
  case hw28 => rfl
  case hy28 => intro W hSw; have z0 := pw_cell_below (show Below _ _ W from hSw) x1; have z1 := pw_cell_below (show Below _ _ W from hSw) x2; have z2 := pw_cell_below (show Below _ _ W from hSw) x3; have z3 := pw_cell_below (show Below _ _ W from hSw) x4; go_simp; (try with_reducible rfl)
  simp only [Act.put, List.setIfInBounds_toArray, List.set_cons_zero, List.set_cons_succ]
  refine take_ (oi := ?oi29) (i := 8) (N := some 55) (v := ?v29) ?hi29 (by kernel_rfl) (by kernel_rfl) (by kernel_rfl) ?hQ29 ?hN29 (Or.inl ⟨?hw29, ?hy29⟩) hHeld ?rest29
  case hi29 => simp only [List.getElem?_toArray, List.getElem?_cons_zero, List.getElem?_cons_succ]; rfl
  case hQ29 => exact fun _ _ _ h => h
  case hN29 => rfl
  case hw29 => rfl
  case hy29 => intro W hSw; have z0 := pw_cell_below (show Below _ _ W from hSw) x1; have z1 := pw_cell_below (show Below _ _ W from hSw) x2; have z2 := pw_cell_below (show Below _ _ W from hSw) x3; have z3 := pw_cell_below (show Below _ _ W from hSw) x4; go_simp; (try with_reducible rfl)
  simp only [Act.put, List.setIfInBounds_toArray, List.set_cons_zero, List.set_cons_succ]
  refine take_ (oi := ?oi30) (i := 9) (N := some 2) (v := ?v30) ?hi30 (by kernel_rfl) (by kernel_rfl) (by kernel_rfl) ?hQ30 ?hN30 (Or.inl ⟨?hw30, ?hy30⟩) hHeld ?rest30
  case hi30 => simp only [List.getElem?_toArray, List.getElem?_cons_zero, List.getElem?_cons_succ]; rfl
  case hQ30 => exact fun _ _ _ h => h
  case hN30 => rfl
  case hw30 => rfl
  case hy30 => intro W hSw; have z0 := pw_cell_below (show Below _ _ W from hSw) x1; have z1 := pw_cell_below (show Below _ _ W from hSw) x2; have z2 := pw_cell_below (show Below _ _ W from hSw) x3; have z3 := pw_cell_below (show Below _ _ W from hSw) x4; go_simp; (try with_reducible rfl)
  simp only [Act.put, List.setIfInBounds_toArray, List.set_cons_zero, List.set_cons_succ]
  refine wpAnyH_done (by kernel_rfl) ?_ _
  refine NoPanic.normal ?_
  have HBz := Aside0.mk (below_step HB.out hHeld)
  go_wp2
  go_ret
  exact ⟨⟨_, rfl⟩, HBz.out⟩
theorem val5_ok (s : Int) (A2 A3 A4 A5 : Option Addr) (c2 c3 c4 n5 c5 : Nat) (l2 : List (Nat × Nat)) (l3 : List (List (Nat × Nat))) (l4 : List (List (List (Nat × Nat)))) (w : World) (hL : Lays w A2 A3 A4 l2 l3 l4) (h3 : l3.length ≤ 1000 ∧ ∀ x ∈ l3, x.length ≤ 1000) :
    Calls Try.prog 12 #[gv 5 s A2 A3 A4 A5 l2.length c2 l3.length c3 l4.length c4 n5 c5] w fun e w' => OfType e 50 ∧ Below w.heap.size w w' := by
  have hB := below_alloc (Below.refl w.heap.size w) (go 5 s A2 A3 A4 A5 l2.length c2 l3.length c3 l4.length c4 n5 c5)
  have hN := heap_alloc_new w (go 5 s A2 A3 A4 A5 l2.length c2 l3.length c3 l4.length c4 n5 c5)
  have H := Aside0.mk (fun W (h : Below w.heap.size w W) => lines2_ok s A3 c3 l3 h3.1 h3.2 W (hL.below h).2.1)
  have HB := Aside0.mk hB
  generalize l2.length = m2 at *
  generalize l3.length = m3 at *
  generalize l4.length = m4 at *
  clear hL hB
  go_enter Try.func12, Try.ntmps12
  go_wp2
  generalize w.alloc (go 5 s A2 A3 A4 A5 m2 c2 m3 c3 m4 c4 n5 c5) = V at *
  have hN : V.heap[w.heap.size]? = some (go 5 s A2 A3 A4 A5 m2 c2 m3 c3 m4 c4 n5 c5) := hN
  obtain ⟨x0, x1, x2, x3, x4, x5⟩ := cells6 hN
  refine wp_region_noPanic ?_
  refine wp_region_held_drew (S := fun W => Below V.heap.size V W) (by kernel_rfl) ?_ (fun hHeld => ?_)
  · exact below_drew (Below.refl _ _)
  refine take_ (oi := ?oi31) (i := 0) (N := some 58) (v := ?v31) ?hi31 (by kernel_rfl) (by kernel_rfl) (by kernel_rfl) ?hQ31 ?hN31 (Or.inl ⟨?hw31, ?hy31⟩) hHeld ?rest31
  case hi31 => simp only [List.getElem?_toArray, List.getElem?_cons_zero, List.getElem?_cons_succ]; rfl
  case hQ31 => exact fun _ _ _ h => h
  case hN31 => rfl
  case hw31 => rfl
  case hy31 => intro W hSw; have z0 := pw_cell_below (show Below _ _ W from hSw) x1; have z1 := pw_cell_below (show Below _ _ W from hSw) x2; have z2 := pw_cell_below (show Below _ _ W from hSw) x3; have z3 := pw_cell_below (show Below _ _ W from hSw) x4; go_simp; (try with_reducible rfl)
  simp only [Act.put, List.setIfInBounds_toArray, List.set_cons_zero, List.set_cons_succ]
  refine take_ (oi := ?oi32) (i := 1) (N := some 59) (v := ?v32) ?hi32 (by kernel_rfl) (by kernel_rfl) (by kernel_rfl) ?hQ32 ?hN32 (Or.inl ⟨?hw32, ?hy32⟩) hHeld ?rest32
  case hi32 => simp only [List.getElem?_toArray, List.getElem?_cons_zero, List.getElem?_cons_succ]; rfl
  case hQ32 => exact fun _ _ _ h => h
  case hN32 => rfl
  case hw32 => rfl
  case hy32 => intro W hSw; have z0 := pw_cell_below (show Below _ _ W from hSw) x1; have z1 := pw_cell_below (show Below _ _ W from hSw) x2; have z2 := pw_cell_below (show Below _ _ W from hSw) x3; have z3 := pw_cell_below (show Below _ _ W from hSw) x4; go_simp; (try with_reducible rfl)
  simp only [Act.put, List.setIfInBounds_toArray, List.set_cons_zero, List.set_cons_succ]
  refine take_ (oi := ?oi33) (i := 2) (N := some 60) (v := ?v33) ?hi33 (by kernel_rfl) (by kernel_rfl) (by kernel_rfl) ?hQ33 ?hN33 (Or.inl ⟨?hw33, ?hy33⟩) hHeld ?rest33
  case hi33 => simp only [List.getElem?_toArray, List.getElem?_cons_zero, List.getElem?_cons_succ]; rfl
  case hQ33 => exact fun _ _ _ h => h
  case hN33 => rfl
  case hw33 => rfl
  case hy33 => intro W hSw; have z0 := pw_cell_below (show Below _ _ W from hSw) x1; have z1 := pw_cell_below (show Below _ _ W from hSw) x2; have z2 := pw_cell_below (show Below _ _ W from hSw) x3; have z3 := pw_cell_below (show Below _ _ W from hSw) x4; go_simp; (try with_reducible rfl)
  simp only [Act.put, List.setIfInBounds_toArray, List.set_cons_zero, List.set_cons_succ]
  refine take_ (oi := ?oi34) (i := 3) (N := some 61) (v := ?v34) ?hi34 (by kernel_rfl) (by kernel_rfl) (by kernel_rfl) ?hQ34 ?hN34 (Or.inl ⟨?hw34, ?hy34⟩) hHeld ?rest34
  case hi34 => simp only [List.getElem?_toArray, List.getElem?_cons_zero, List.getElem?_cons_succ]; rfl
  case hQ34 => exact fun _ _ _ h => h
  case hN34 => rfl
  case hw34 => rfl
  case hy34 => intro W hSw; have z0 := pw_cell_below (show Below _ _ W from hSw) x1; have z1 := pw_cell_below (show Below _ _ W from hSw) x2; have z2 := pw_cell_below (show Below _ _ W from hSw) x3; have z3 := pw_cell_below (show Below _ _ W from hSw) x4; go_simp; (try with_reducible rfl)
  simp only [Act.put, List.setIfInBounds_toArray, List.set_cons_zero, List.set_cons_succ]
  refine take_ (oi := ?oi35) (i := 4) (N := some 62) (v := ?v35) ?hi35 (by kernel_rfl) (by kernel_rfl) (by kernel_rfl) ?hQ35 ?hN35 (Or.inl ⟨?hw35, ?hy35⟩) hHeld ?rest35
  case hi35 => simp only [List.getElem?_toArray, List.getElem?_cons_zero, List.getElem?_cons_succ]; rfl
  case hQ35 => exact fun _ _ _ h => h
  case hN35 => rfl
  case hw35 => rfl
  case hy35 => intro W hSw; have z0 := pw_cell_below (show Below _ _ W from hSw) x1; have z1 := pw_cell_below (show Below _ _ W from hSw) x2; have z2 := pw_cell_below (show Below _ _ W from hSw) x3; have z3 := pw_cell_below (show Below _ _ W from hSw) x4; go_simp; (try with_reducible rfl)
  simp only [Act.put, List.setIfInBounds_toArray, List.set_cons_zero, List.set_cons_succ]
  refine take_ (oi := ?oi36) (i := 5) (N := some 63) (v := ?v36) ?hi36 (by kernel_rfl) (by kernel_rfl) (by kernel_rfl) ?hQ36 ?hN36 (Or.inl ⟨?hw36, ?hy36⟩) hHeld ?rest36
  case hi36 => simp only [List.getElem?_toArray, List.getElem?_cons_zero, List.getElem?_cons_succ]; rfl
  case hQ36 => exact fun _ _ _ h => h
  case hN36 => rfl
  case hw36 => rfl
  case hy36 => intro W hSw; have z0 := pw_cell_below (show Below _ _ W from hSw) x1; have z1 := pw_cell_below (show Below _ _ W from hSw) x2; have z2 := pw_cell_below (show Below _ _ W from hSw) x3; have z3 := pw_cell_below (show Below _ _ W from hSw) x4; go_simp; (try with_reducible rfl)
  simp only [Act.put, List.setIfInBounds_toArray, List.set_cons_zero, List.set_cons_succ]
  refine wpAnyH_ready (rs := [6]) (by kernel_rfl) (by simp) ?_
  refine AllReadyH.cons (o := ?oi37) ?hi37 (fun K hK => ?step37) AllReadyH.nil
  case hi37 => simp only [List.getElem?_toArray, List.getElem?_cons_zero, List.getElem?_cons_succ]; rfl
  refine goes_ (N := some 64) Try.func16 (by kernel_rfl) rfl #[.slice A3 m3 c3, .int .u32 s] (by rfl) rfl rfl (by (try simp only [List.map_toArray, List.map_cons, List.map_nil]); rfl) ?_
  refine (H.out _ (below_step HB.out hHeld)).mono ?_
  rintro e v6 ⟨⟨A9, n9, c9, rfl⟩, hb⟩
  refine ⟨_, rfl, ?_⟩
  refine hK.out _ _ (below_step hHeld hb) (fun hHeld => ?_)
  clear hK K hb
  simp only [Act.put, List.setIfInBounds_toArray, List.set_cons_zero, List.set_cons_succ]
  refine take_ (oi := ?oi38) (i := 7) (N := some 65) (v := ?v38) ?hi38 (by kernel_rfl) (by kernel_rfl) (by kernel_rfl) ?hQ38 ?hN38 (Or.inl ⟨?hw38, ?hy38⟩) hHeld ?rest38
  case hi38 => simp only [List.getElem?_toArray, List.getElem?_cons_zero, List.getElem?_cons_succ]; rfl
  case hQ38 => exact fun _ _ _ h => h
  case hN38 => rfl
  case hw38 => rfl
  case hy38 => intro W hSw; have z0 := pw_cell_below (show Below _ _ W from hSw) x1; have z1 := pw_cell_below (show Below _ _ W from hSw) x2; have z2 := pw_cell_below (show Below _ _ W from hSw) x3; have z3 := pw_cell_below (show Below _ _ W from hSw) x4; go_simp; (try with_reducible rfl)
  simp only [Act.put, List.setIfInBounds_toArray, List.set_cons_zero, List.set_cons_succ]
  refine take_ (oi := ?oi39) (i := 8) (N := some 66) (v := ?v39) ?hi39 (by kernel_rfl) (by kernel_rfl) (by kernel_rfl) ?hQ39 ?hN39 (Or.inl ⟨?hw39, ?hy39⟩) hHeld ?rest39
  case hi39 => simp only [List.getElem?_toArray, List.getElem?_cons_zero, List.getElem?_cons_succ]; rfl
  case hQ39 => exact fun _ _ _ h => h
  case hN39 => rfl
  case hw39 => rfl
  case hy39 => intro W hSw; have z0 := pw_cell_below (show Below _ _ W from hSw) x1; have z1 := pw_cell_below (show Below _ _ W from hSw) x2; have z2 := pw_cell_below (show Below _ _ W from hSw) x3; have z3 := pw_cell_below (show Below _ _ W from hSw) x4; go_simp; (try with_reducible rfl)
  simp only [Act.put, List.setIfInBounds_toArray, List.set_cons_zero, List.set_cons_succ]
  refine take_ (oi := ?oi40) (i := 9) (N := some 2) (v := ?v40) ?hi40 (by kernel_rfl) (by kernel_rfl) (by kernel_rfl) ?hQ40 ?hN40 (Or.inl ⟨?hw40, ?hy40⟩) hHeld ?rest40
  case hi40 => simp only [List.getElem?_toArray, List.getElem?_cons_zero, List.getElem?_cons_succ]; rfl
  case hQ40 => exact fun _ _ _ h => h
  case hN40 => rfl
  case hw40 => rfl
  case hy40 => intro W hSw; have z0 := pw_cell_below (show Below _ _ W from hSw) x1; have z1 := pw_cell_below (show Below _ _ W from hSw) x2; have z2 := pw_cell_below (show Below _ _ W from hSw) x3; have z3 := pw_cell_below (show Below _ _ W from hSw) x4; go_simp; (try with_reducible rfl)
  simp only [Act.put, List.setIfInBounds_toArray, List.set_cons_zero, List.set_cons_succ]
  refine wpAnyH_done (by kernel_rfl) ?_ _
  refine NoPanic.normal ?_
  have HBz := Aside0.mk (below_step HB.out hHeld)
  go_wp2
  go_ret
  exact ⟨⟨_, rfl⟩, HBz.out⟩
theorem val6_ok (s : Int) (A2 A3 A4 A5 : Option Addr) (c2 c3 c4 n5 c5 : Nat) (l2 : List (Nat × Nat)) (l3 : List (List (Nat × Nat))) (l4 : List (List (List (Nat × Nat)))) (w : World) (hL : Lays w A2 A3 A4 l2 l3 l4) (h4 : l4.length ≤ 1000 ∧ ∀ x ∈ l4, x.length ≤ 1000 ∧ ∀ y ∈ x, y.length ≤ 1000) :
    Calls Try.prog 12 #[gv 6 s A2 A3 A4 A5 l2.length c2 l3.length c3 l4.length c4 n5 c5] w fun e w' => OfType e 54 ∧ Below w.heap.size w w' := by
  have hB := below_alloc (Below.refl w.heap.size w) (go 6 s A2 A3 A4 A5 l2.length c2 l3.length c3 l4.length c4 n5 c5)
  have hN := heap_alloc_new w (go 6 s A2 A3 A4 A5 l2.length c2 l3.length c3 l4.length c4 n5 c5)
  have H := Aside0.mk (fun W (h : Below w.heap.size w W) => fun (hb : Box W w.heap.size s) => turnedP_ok s A4 c4 w.heap.size l4 h4.1 h4.2 W (hL.below h).2.2 hb)
  have HB := Aside0.mk hB
  have HBX := Aside0.mk (fun W (h : Below (w.alloc (go 6 s A2 A3 A4 A5 l2.length c2 l3.length c3 l4.length c4 n5 c5)).heap.size (w.alloc (go 6 s A2 A3 A4 A5 l2.length c2 l3.length c3 l4.length c4 n5 c5)) W) => (show Box W w.heap.size s from ⟨_, _, _, _, _, (h.block _ (blk_lt hN)).trans hN⟩))
  generalize l2.length = m2 at *
  generalize l3.length = m3 at *
  generalize l4.length = m4 at *
  clear hL hB
  go_enter Try.func12, Try.ntmps12
  go_wp2
  generalize w.alloc (go 6 s A2 A3 A4 A5 m2 c2 m3 c3 m4 c4 n5 c5) = V at *
  have hN : V.heap[w.heap.size]? = some (go 6 s A2 A3 A4 A5 m2 c2 m3 c3 m4 c4 n5 c5) := hN
  obtain ⟨x0, x1, x2, x3, x4, x5⟩ := cells6 hN
  refine wp_region_noPanic ?_
  refine wp_region_held_drew (S := fun W => Below V.heap.size V W) (by kernel_rfl) ?_ (fun hHeld => ?_)
  · exact below_drew (Below.refl _ _)
  refine take_ (oi := ?oi41) (i := 0) (N := some 69) (v := ?v41) ?hi41 (by kernel_rfl) (by kernel_rfl) (by kernel_rfl) ?hQ41 ?hN41 (Or.inl ⟨?hw41, ?hy41⟩) hHeld ?rest41
  case hi41 => simp only [List.getElem?_toArray, List.getElem?_cons_zero, List.getElem?_cons_succ]; rfl
  case hQ41 => exact fun _ _ _ h => h
  case hN41 => rfl
  case hw41 => rfl
  case hy41 => intro W hSw; have z0 := pw_cell_below (show Below _ _ W from hSw) x1; have z1 := pw_cell_below (show Below _ _ W from hSw) x2; have z2 := pw_cell_below (show Below _ _ W from hSw) x3; have z3 := pw_cell_below (show Below _ _ W from hSw) x4; go_simp; (try with_reducible rfl)
  simp only [Act.put, List.setIfInBounds_toArray, List.set_cons_zero, List.set_cons_succ]
  refine take_ (oi := ?oi42) (i := 1) (N := some 70) (v := ?v42) ?hi42 (by kernel_rfl) (by kernel_rfl) (by kernel_rfl) ?hQ42 ?hN42 (Or.inl ⟨?hw42, ?hy42⟩) hHeld ?rest42
  case hi42 => simp only [List.getElem?_toArray, List.getElem?_cons_zero, List.getElem?_cons_succ]; rfl
  case hQ42 => exact fun _ _ _ h => h
  case hN42 => rfl
  case hw42 => rfl
  case hy42 => intro W hSw; have z0 := pw_cell_below (show Below _ _ W from hSw) x1; have z1 := pw_cell_below (show Below _ _ W from hSw) x2; have z2 := pw_cell_below (show Below _ _ W from hSw) x3; have z3 := pw_cell_below (show Below _ _ W from hSw) x4; go_simp; (try with_reducible rfl)
  simp only [Act.put, List.setIfInBounds_toArray, List.set_cons_zero, List.set_cons_succ]
  refine take_ (oi := ?oi43) (i := 2) (N := some 71) (v := ?v43) ?hi43 (by kernel_rfl) (by kernel_rfl) (by kernel_rfl) ?hQ43 ?hN43 (Or.inl ⟨?hw43, ?hy43⟩) hHeld ?rest43
  case hi43 => simp only [List.getElem?_toArray, List.getElem?_cons_zero, List.getElem?_cons_succ]; rfl
  case hQ43 => exact fun _ _ _ h => h
  case hN43 => rfl
  case hw43 => rfl
  case hy43 => intro W hSw; have z0 := pw_cell_below (show Below _ _ W from hSw) x1; have z1 := pw_cell_below (show Below _ _ W from hSw) x2; have z2 := pw_cell_below (show Below _ _ W from hSw) x3; have z3 := pw_cell_below (show Below _ _ W from hSw) x4; go_simp; (try with_reducible rfl)
  simp only [Act.put, List.setIfInBounds_toArray, List.set_cons_zero, List.set_cons_succ]
  refine take_ (oi := ?oi44) (i := 3) (N := some 72) (v := ?v44) ?hi44 (by kernel_rfl) (by kernel_rfl) (by kernel_rfl) ?hQ44 ?hN44 (Or.inl ⟨?hw44, ?hy44⟩) hHeld ?rest44
  case hi44 => simp only [List.getElem?_toArray, List.getElem?_cons_zero, List.getElem?_cons_succ]; rfl
  case hQ44 => exact fun _ _ _ h => h
  case hN44 => rfl
  case hw44 => rfl
  case hy44 => intro W hSw; have z0 := pw_cell_below (show Below _ _ W from hSw) x1; have z1 := pw_cell_below (show Below _ _ W from hSw) x2; have z2 := pw_cell_below (show Below _ _ W from hSw) x3; have z3 := pw_cell_below (show Below _ _ W from hSw) x4; go_simp; (try with_reducible rfl)
  simp only [Act.put, List.setIfInBounds_toArray, List.set_cons_zero, List.set_cons_succ]
  refine take_ (oi := ?oi45) (i := 4) (N := some 73) (v := ?v45) ?hi45 (by kernel_rfl) (by kernel_rfl) (by kernel_rfl) ?hQ45 ?hN45 (Or.inl ⟨?hw45, ?hy45⟩) hHeld ?rest45
  case hi45 => simp only [List.getElem?_toArray, List.getElem?_cons_zero, List.getElem?_cons_succ]; rfl
  case hQ45 => exact fun _ _ _ h => h
  case hN45 => rfl
  case hw45 => rfl
  case hy45 => intro W hSw; have z0 := pw_cell_below (show Below _ _ W from hSw) x1; have z1 := pw_cell_below (show Below _ _ W from hSw) x2; have z2 := pw_cell_below (show Below _ _ W from hSw) x3; have z3 := pw_cell_below (show Below _ _ W from hSw) x4; go_simp; (try with_reducible rfl)
  simp only [Act.put, List.setIfInBounds_toArray, List.set_cons_zero, List.set_cons_succ]
  refine wpAnyH_ready (rs := [5]) (by kernel_rfl) (by simp) ?_
  refine AllReadyH.cons (o := ?oi46) ?hi46 (fun K hK => ?step46) AllReadyH.nil
  case hi46 => simp only [List.getElem?_toArray, List.getElem?_cons_zero, List.getElem?_cons_succ]; rfl
  refine goes_ (N := some 74) Try.func17 (by kernel_rfl) rfl #[.slice A4 m4 c4, .func (.func 18) #[] #[.pointer (some ⟨w.heap.size, 0, none⟩)]] (by rfl) rfl rfl (by (try simp only [List.map_toArray, List.map_cons, List.map_nil]); rfl) ?_
  refine (H.out _ (below_step HB.out hHeld) (HBX.out _ hHeld)).mono ?_
  rintro e v5 ⟨⟨A9, n9, c9, rfl⟩, hb⟩
  refine ⟨_, rfl, ?_⟩
  refine hK.out _ _ (below_step hHeld hb) (fun hHeld => ?_)
  clear hK K hb
  simp only [Act.put, List.setIfInBounds_toArray, List.set_cons_zero, List.set_cons_succ]
  refine take_ (oi := ?oi47) (i := 6) (N := some 75) (v := ?v47) ?hi47 (by kernel_rfl) (by kernel_rfl) (by kernel_rfl) ?hQ47 ?hN47 (Or.inl ⟨?hw47, ?hy47⟩) hHeld ?rest47
  case hi47 => simp only [List.getElem?_toArray, List.getElem?_cons_zero, List.getElem?_cons_succ]; rfl
  case hQ47 => exact fun _ _ _ h => h
  case hN47 => rfl
  case hw47 => rfl
  case hy47 => intro W hSw; have z0 := pw_cell_below (show Below _ _ W from hSw) x1; have z1 := pw_cell_below (show Below _ _ W from hSw) x2; have z2 := pw_cell_below (show Below _ _ W from hSw) x3; have z3 := pw_cell_below (show Below _ _ W from hSw) x4; go_simp; (try with_reducible rfl)
  simp only [Act.put, List.setIfInBounds_toArray, List.set_cons_zero, List.set_cons_succ]
  refine take_ (oi := ?oi48) (i := 7) (N := some 76) (v := ?v48) ?hi48 (by kernel_rfl) (by kernel_rfl) (by kernel_rfl) ?hQ48 ?hN48 (Or.inl ⟨?hw48, ?hy48⟩) hHeld ?rest48
  case hi48 => simp only [List.getElem?_toArray, List.getElem?_cons_zero, List.getElem?_cons_succ]; rfl
  case hQ48 => exact fun _ _ _ h => h
  case hN48 => rfl
  case hw48 => rfl
  case hy48 => intro W hSw; have z0 := pw_cell_below (show Below _ _ W from hSw) x1; have z1 := pw_cell_below (show Below _ _ W from hSw) x2; have z2 := pw_cell_below (show Below _ _ W from hSw) x3; have z3 := pw_cell_below (show Below _ _ W from hSw) x4; go_simp; (try with_reducible rfl)
  simp only [Act.put, List.setIfInBounds_toArray, List.set_cons_zero, List.set_cons_succ]
  refine take_ (oi := ?oi49) (i := 8) (N := some 2) (v := ?v49) ?hi49 (by kernel_rfl) (by kernel_rfl) (by kernel_rfl) ?hQ49 ?hN49 (Or.inl ⟨?hw49, ?hy49⟩) hHeld ?rest49
  case hi49 => simp only [List.getElem?_toArray, List.getElem?_cons_zero, List.getElem?_cons_succ]; rfl
  case hQ49 => exact fun _ _ _ h => h
  case hN49 => rfl
  case hw49 => rfl
  case hy49 => intro W hSw; have z0 := pw_cell_below (show Below _ _ W from hSw) x1; have z1 := pw_cell_below (show Below _ _ W from hSw) x2; have z2 := pw_cell_below (show Below _ _ W from hSw) x3; have z3 := pw_cell_below (show Below _ _ W from hSw) x4; go_simp; (try with_reducible rfl)
  simp only [Act.put, List.setIfInBounds_toArray, List.set_cons_zero, List.set_cons_succ]
  refine wpAnyH_done (by kernel_rfl) ?_ _
  refine NoPanic.normal ?_
  have HBz := Aside0.mk (below_step HB.out hHeld)
  go_wp2
  go_ret
  exact ⟨⟨_, rfl⟩, HBz.out⟩
end Go.Proofs.Ytkcffmnccjemiaa.GD
