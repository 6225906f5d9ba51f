/-
  The walk of the law: a geometry's dimension. Condition: the argument lies as it is told.
-/
import Derived.Test.YtkcffmnccjemiaaGDs
namespace Go.Proofs.Ytkcffmnccjemiaa.GD
open Go.RowKit Go.Proofs.YtkcffmnccjemiaaW.PrintWords Go.Proofs.YtkcffmnccjemiaaW.PrintLast Go.Proofs.YtkcffmnccjemiaaW.PrintMore
set_option linter.unusedVariables false
set_option linter.unusedSimpArgs false
set_option maxRecDepth 100000
set_option maxHeartbeats 400000

section
variable (k s : Int) (A2 A3 A4 A5 : Option Addr) (c2 c3 c4 c5 : Nat) (l2 : List (Nat × Nat)) (l3 : List (List (Nat × Nat))) (l4 : List (List (List (Nat × Nat)))) (lg : List GeoD)
theorem fit_ok (w : World) (hL : Lays w A2 A3 A4 l2 l3 l4) (hG : kGeo.C w A5 lg.length lg) :
    Calls Try.prog 5 #[gv k s A2 A3 A4 A5 l2.length c2 l3.length c3 l4.length c4 lg.length c5] w fun e w' => Tells e (Fit k l2 l3 l4 lg) ∧ Below w.heap.size w w' := by
  by_cases hk : k = 7
  · subst hk; exact fit2_ok s A2 A3 A4 A5 c2 c3 c4 c5 l2 l3 l4 lg w hL hG
  · exact fit1_ok k s A2 A3 A4 A5 c2 c3 c4 c5 l2 l3 l4 lg hk w hL
theorem dims_ok (w : World) (hL : Lays w A2 A3 A4 l2 l3 l4) (hG : kGeo.C w A5 lg.length lg) (hF : Fit k l2 l3 l4 lg) : ∃ D : Int,
    (∀ W, Below w.heap.size w W → Calls Try.prog 6 #[gv k s A2 A3 A4 A5 l2.length c2 l3.length c3 l4.length c4 lg.length c5] W fun e w' => e = .returned (.tuple #[.int .i64 D, .bool true]) ∧ Below W.heap.size W w') ∧
    (∀ W, Below w.heap.size w W → Calls Try.prog 7 #[gv k s A2 A3 A4 A5 l2.length c2 l3.length c3 l4.length c4 lg.length c5] W fun e w' => e = .returned (.int .i64 D) ∧ Below W.heap.size W w') := by
  rcases hF with ⟨_, hF⟩ | ⟨rfl, h1, h5, hF⟩
  · exact ⟨dimOf k, fun W h => implFlat_ok k s A2 A3 A4 A5 c2 c3 c4 lg.length c5 l2 l3 l4 W (hL.below h) hF, fun W h => specFlat_ok k s A2 A3 A4 A5 l2.length c2 l3.length c3 l4.length c4 lg.length c5 hF.kind W⟩
  · refine ⟨most 0 (lg.map (·.1)), fun W h => implColl_ok s A2 A3 A4 A5 l2.length c2 l3.length c3 l4.length c4 c5 lg h1 h5 hF W (Kd.C_below hG h), fun W h => ?_⟩
    have H := specColl_ok s A2 A3 A4 A5 l2.length c2 l3.length c3 l4.length c4 c5 lg hF W (Kd.C_below hG h)
    rw [most_same _ (by rw [List.length_map]; exact h1)] at H
    exact H
theorem law_ok (w : World) (hL : Lays w A2 A3 A4 l2 l3 l4) (hG : kGeo.C w A5 lg.length lg) :
    Calls Try.prog 3 #[gv k s A2 A3 A4 A5 l2.length c2 l3.length c3 l4.length c4 lg.length c5] w fun e w' => e = .returned (.bool true) ∧ Below w.heap.size w w' := by
  have hB := below_alloc (Below.refl w.heap.size w) (go k s A2 A3 A4 A5 l2.length c2 l3.length c3 l4.length c4 lg.length c5)
  have HN := Aside0.mk (heap_alloc_new w (go k s A2 A3 A4 A5 l2.length c2 l3.length c3 l4.length c4 lg.length c5))
  have H1 := Aside0.mk (fits2_ok k s A2 A3 A4 A5 c2 c3 c4 lg.length c5 l2 l3 l4 _ (hL.below hB))
  have H2 := Aside0.mk (fun W (h : Below w.heap.size w W) => fit_ok k s A2 A3 A4 A5 c2 c3 c4 c5 l2 l3 l4 lg W (hL.below h) (Kd.C_below hG h))
  have H3 := Aside0.mk (fun hF => dims_ok k s A2 A3 A4 A5 c2 c3 c4 c5 l2 l3 l4 lg w hL hG hF)
  have H4 := Aside0.mk (fun W => implNone_ok W)
  have HB := Aside0.mk hB
  generalize Fit k l2 l3 l4 lg = FF at *
  generalize l2.length = m2 at *
  generalize l3.length = m3 at *
  generalize l4.length = m4 at *
  generalize lg.length = m5 at *
  clear hL hG hB
  go_enter Try.func3, Try.ntmps3
  go_wp2_with fail
  refine H1.out.mono ?_
  rintro e w2 ⟨⟨r, rfl⟩, hb⟩
  have HB2 := Aside0.mk (below_step HB.out hb)
  have hN := (hb.block _ (blk_lt HN.out)).trans HN.out
  have HN2 := Aside0.mk hN
  obtain ⟨x0, x1, x2, x3, x4, x5⟩ := cells6 hN
  clear hb hN HN HB H1
  cases r
  · go_wp2_with fail
    go_ret
    exact ⟨rfl, HB2.out⟩
  go_wp2_with fail
  refine (H2.out _ HB2.out).mono ?_
  rintro e w3 ⟨⟨r, rfl, hr⟩, hb⟩
  have HB3 := Aside0.mk (below_step HB2.out hb)
  have hN := (hb.block _ (blk_lt HN2.out)).trans HN2.out
  have HN3 := Aside0.mk hN
  have HR := Aside0.mk hr
  clear x0 x1 x2 x3 x4 x5
  obtain ⟨x0, x1, x2, x3, x4, x5⟩ := cells6 hN
  clear hb hN hr HN2 HB2 H2
  cases r
  · go_wp2_with fail
    go_ret
    exact ⟨rfl, HB3.out⟩
  obtain ⟨D, hI, hS⟩ := H3.out (HR.out rfl)
  have HI := Aside0.mk hI
  have HS := Aside0.mk hS
  clear hI hS H3 HR
  go_wp2_with fail
  refine (HI.out _ HB3.out).mono ?_
  rintro e w4 ⟨rfl, hb⟩
  have HB4 := Aside0.mk (below_step HB3.out hb)
  have hN := (hb.block _ (blk_lt HN3.out)).trans HN3.out
  have HN4 := Aside0.mk hN
  clear x0 x1 x2 x3 x4 x5 hb hN HN3 HB3 HI
  go_wp2_with fail
  refine (H4.out _).mono ?_
  rintro e w5 ⟨rfl, hb⟩
  have HB5 := Aside0.mk (below_step HB4.out hb)
  have hN := (hb.block _ (blk_lt HN4.out)).trans HN4.out
  obtain ⟨x0, x1, x2, x3, x4, x5⟩ := cells6 hN
  clear hb hN HN4 HB4 H4
  go_wp2_with fail
  refine (HS.out _ HB5.out).mono ?_
  rintro e w6 ⟨rfl, hb⟩
  have HB6 := Aside0.mk (below_step HB5.out hb)
  clear hb HB5 HS
  go_wp2_with fail
  go_ret
  exact ⟨by first | rfl | simp, HB6.out⟩
end
end Go.Proofs.Ytkcffmnccjemiaa.GD
