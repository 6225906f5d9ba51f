/-
  A collection of flat geometries: its value, its dimension. Condition: geFit's.
-/
import Derived.Test.YtkcffmnccjemiaaGDl
namespace Go.Proofs.Ytkcffmnccjemiaa.GD
open Go.RowKit Go.Proofs.YtkcffmnccjemiaaW.PrintWords Go.Proofs.YtkcffmnccjemiaaW.PrintLast Go.Proofs.YtkcffmnccjemiaaW.PrintMore
set_option linter.unusedVariables false
set_option linter.unusedSimpArgs false
set_option maxRecDepth 100000
set_option maxHeartbeats 1000000

theorem val7_ok (s : Int) (A2 A3 A4 A5 : Option Addr) (n2 c2 n3 c3 n4 c4 c5 : Nat) (lg : List GeoD) (hl : lg.length ≤ 5) (hF : ∀ y ∈ lg, FlatD y) (w : World) (hG : kGeo.C w A5 lg.length lg) :
    Calls Try.prog 12 #[gv 7 s A2 A3 A4 A5 n2 c2 n3 c3 n4 c4 lg.length c5] w fun e w' => (∃ A n c acc, e = .returned (.iface 57 (.agg #[.int .u32 s, .slice A n c])) ∧ n = lg.length ∧ acc.map (·.1) = lg.map (fun y => typeOf y.1) ∧ kI.C w' A n acc) ∧ Below w.heap.size w w' := by
  have hB := below_alloc (Below.refl w.heap.size w) (go 7 s A2 A3 A4 A5 n2 c2 n3 c3 n4 c4 lg.length c5)
  have hN := heap_alloc_new w (go 7 s A2 A3 A4 A5 n2 c2 n3 c3 n4 c4 lg.length c5)
  have H := Aside0.mk (fun W (h : Below w.heap.size w W) => turnedV_ok A5 c5 lg hl hF W (Kd.C_below hG h))
  have HB := Aside0.mk hB
  have hlen : ∀ acc : List (Nat × Value), acc.map (·.1) = lg.map (fun y => typeOf y.1) → acc.length = lg.length := fun acc h => by
    have h := congrArg List.length h
    rwa [List.length_map, List.length_map] at h
  have HLEN := Aside0.mk hlen
  generalize lg.map (fun y => typeOf y.1) = TL at *
  generalize lg.length = m5 at *
  clear hG hB hF hlen
  go_enter Try.func12, Try.ntmps12
  go_wp2
  generalize w.alloc (go 7 s A2 A3 A4 A5 n2 c2 n3 c3 n4 c4 m5 c5) = V at *
  have hN : V.heap[w.heap.size]? = some (go 7 s A2 A3 A4 A5 n2 c2 n3 c3 n4 c4 m5 c5) := hN
  obtain ⟨x0, x1, x2, x3, x4, x5⟩ := cells6 hN
  refine wp_region_noPanic ?_
  refine wp_region_held_drew (S := fun W => Below V.heap.size V W) (by kernel_rfl) ?_ (fun hHeld => ?_)
  · exact below_drew (Below.refl _ _)
  refine take_ (oi := ?oi1) (i := 0) (N := some 77) (v := ?v1) ?hi1 (by kernel_rfl) (by kernel_rfl) (by kernel_rfl) ?hQ1 ?hN1 (Or.inl ⟨?hw1, ?hy1⟩) hHeld ?rest1
  case hi1 => simp only [List.getElem?_toArray, List.getElem?_cons_zero, List.getElem?_cons_succ]; rfl
  case hQ1 => exact fun _ _ _ h => h
  case hN1 => rfl
  case hw1 => rfl
  case hy1 => intro W hSw; have z0 := pw_cell_below (show Below _ _ W from hSw) x1; have z1 := pw_cell_below (show Below _ _ W from hSw) x5; go_simp; (try with_reducible rfl)
  simp only [Act.put, List.setIfInBounds_toArray, List.set_cons_zero, List.set_cons_succ]
  refine take_ (oi := ?oi2) (i := 1) (N := some 78) (v := ?v2) ?hi2 (by kernel_rfl) (by kernel_rfl) (by kernel_rfl) ?hQ2 ?hN2 (Or.inl ⟨?hw2, ?hy2⟩) hHeld ?rest2
  case hi2 => simp only [List.getElem?_toArray, List.getElem?_cons_zero, List.getElem?_cons_succ]; rfl
  case hQ2 => exact fun _ _ _ h => h
  case hN2 => rfl
  case hw2 => rfl
  case hy2 => intro W hSw; have z0 := pw_cell_below (show Below _ _ W from hSw) x1; have z1 := pw_cell_below (show Below _ _ W from hSw) x5; go_simp; (try with_reducible rfl)
  simp only [Act.put, List.setIfInBounds_toArray, List.set_cons_zero, List.set_cons_succ]
  refine take_ (oi := ?oi3) (i := 2) (N := some 79) (v := ?v3) ?hi3 (by kernel_rfl) (by kernel_rfl) (by kernel_rfl) ?hQ3 ?hN3 (Or.inl ⟨?hw3, ?hy3⟩) hHeld ?rest3
  case hi3 => simp only [List.getElem?_toArray, List.getElem?_cons_zero, List.getElem?_cons_succ]; rfl
  case hQ3 => exact fun _ _ _ h => h
  case hN3 => rfl
  case hw3 => rfl
  case hy3 => intro W hSw; have z0 := pw_cell_below (show Below _ _ W from hSw) x1; have z1 := pw_cell_below (show Below _ _ W from hSw) x5; go_simp; (try with_reducible rfl)
  simp only [Act.put, List.setIfInBounds_toArray, List.set_cons_zero, List.set_cons_succ]
  refine take_ (oi := ?oi4) (i := 3) (N := some 80) (v := ?v4) ?hi4 (by kernel_rfl) (by kernel_rfl) (by kernel_rfl) ?hQ4 ?hN4 (Or.inl ⟨?hw4, ?hy4⟩) hHeld ?rest4
  case hi4 => simp only [List.getElem?_toArray, List.getElem?_cons_zero, List.getElem?_cons_succ]; rfl
  case hQ4 => exact fun _ _ _ h => h
  case hN4 => rfl
  case hw4 => rfl
  case hy4 => intro W hSw; have z0 := pw_cell_below (show Below _ _ W from hSw) x1; have z1 := pw_cell_below (show Below _ _ W from hSw) x5; go_simp; (try with_reducible rfl)
  simp only [Act.put, List.setIfInBounds_toArray, List.set_cons_zero, List.set_cons_succ]
  refine wpAnyH_ready (rs := [4]) (by kernel_rfl) (by simp) ?_
  refine AllReadyH.cons (o := ?oi5) ?hi5 (fun K hK => ?step5) AllReadyH.nil
  case hi5 => simp only [List.getElem?_toArray, List.getElem?_cons_zero, List.getElem?_cons_succ]; rfl
  refine goes_ (N := some 81) Try.func19 (by kernel_rfl) rfl #[.slice A5 m5 c5, .func (.func 12) #[] #[]] (by rfl) rfl rfl (by (try simp only [List.map_toArray, List.map_cons, List.map_nil]); rfl) ?_
  refine (H.out _ (below_step HB.out hHeld)).mono ?_
  rintro e v4 ⟨v, acc, rfl, hacc, hR, hb⟩
  obtain ⟨A9, c9, rfl, -, hC⟩ := Kd.R_reads hR
  have HC := Aside0.mk hC
  have HA := Aside0.mk hacc
  clear hR hC hacc
  refine ⟨_, rfl, ?_⟩
  refine hK.out _ _ (below_step hHeld hb) (fun hHeld => ?_)
  clear hK K hb
  simp only [Act.put, List.setIfInBounds_toArray, List.set_cons_zero, List.set_cons_succ]
  refine take_ (oi := ?oi6) (i := 5) (N := some 82) (v := ?v6) ?hi6 (by kernel_rfl) (by kernel_rfl) (by kernel_rfl) ?hQ6 ?hN6 (Or.inl ⟨?hw6, ?hy6⟩) hHeld ?rest6
  case hi6 => simp only [List.getElem?_toArray, List.getElem?_cons_zero, List.getElem?_cons_succ]; rfl
  case hQ6 => exact fun _ _ _ h => h
  case hN6 => rfl
  case hw6 => rfl
  case hy6 => intro W hSw; have z0 := pw_cell_below (show Below _ _ W from hSw) x1; have z1 := pw_cell_below (show Below _ _ W from hSw) x5; go_simp; (try with_reducible rfl)
  simp only [Act.put, List.setIfInBounds_toArray, List.set_cons_zero, List.set_cons_succ]
  refine take_ (oi := ?oi7) (i := 6) (N := some 83) (v := ?v7) ?hi7 (by kernel_rfl) (by kernel_rfl) (by kernel_rfl) ?hQ7 ?hN7 (Or.inl ⟨?hw7, ?hy7⟩) hHeld ?rest7
  case hi7 => simp only [List.getElem?_toArray, List.getElem?_cons_zero, List.getElem?_cons_succ]; rfl
  case hQ7 => exact fun _ _ _ h => h
  case hN7 => rfl
  case hw7 => rfl
  case hy7 => intro W hSw; have z0 := pw_cell_below (show Below _ _ W from hSw) x1; have z1 := pw_cell_below (show Below _ _ W from hSw) x5; go_simp; (try with_reducible rfl)
  simp only [Act.put, List.setIfInBounds_toArray, List.set_cons_zero, List.set_cons_succ]
  refine take_ (oi := ?oi8) (i := 7) (N := some 2) (v := ?v8) ?hi8 (by kernel_rfl) (by kernel_rfl) (by kernel_rfl) ?hQ8 ?hN8 (Or.inl ⟨?hw8, ?hy8⟩) hHeld ?rest8
  case hi8 => simp only [List.getElem?_toArray, List.getElem?_cons_zero, List.getElem?_cons_succ]; rfl
  case hQ8 => exact fun _ _ _ h => h
  case hN8 => rfl
  case hw8 => rfl
  case hy8 => intro W hSw; have z0 := pw_cell_below (show Below _ _ W from hSw) x1; have z1 := pw_cell_below (show Below _ _ W from hSw) x5; go_simp; (try with_reducible rfl)
  simp only [Act.put, List.setIfInBounds_toArray, List.set_cons_zero, List.set_cons_succ]
  refine wpAnyH_done (by kernel_rfl) ?_ _
  refine NoPanic.normal ?_
  have HBz := Aside0.mk (below_step HB.out hHeld)
  go_wp2
  go_ret
  exact ⟨⟨_, _, _, acc, rfl, HLEN.out acc HA.out, HA.out, HC.out⟩, HBz.out⟩
end Go.Proofs.Ytkcffmnccjemiaa.GD
