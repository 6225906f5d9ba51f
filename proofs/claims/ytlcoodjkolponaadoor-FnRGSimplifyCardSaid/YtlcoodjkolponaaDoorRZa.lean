/-
  Printed contracts (gprint.py): RGTouch, ISPut, RGPlaces, RRColumn, RGIn, RRHas, rgLists.
-/
import Derived.Test.YtlcoodjkolponaaDoorPRR0
import Derived.Test.YtlcoodjkolponaaDoorPRR1
namespace Go.Proofs.YtlcoodjkolponaaDoor.PRR
open Go.RowKit Go.Proofs.YtlcoodjkolponaaDoorW.PrintWords Go.Proofs.YtlcoodjkolponaaDoorW.PrintLast Go.Proofs.YtlcoodjkolponaaDoorW.PrintMore
attribute [local go_sem] max2_int min2_int max_two min_two max_three min_three max_four min_four   -- for this text's walks alone
set_option linter.unusedVariables false
set_option linter.unusedSimpArgs false

theorem info3 : (Tryd.prog.info? 3).map (fun i => (i.zero, i.size, i.bytes)) = some (some (.int .i64 0), 1, 8) := by kernel_rfl
theorem info111 : (Tryd.prog.info? 111).map (fun i => (i.zero, i.size, i.bytes)) = some (some (.slice none 0 0), 1, 24) := by kernel_rfl
/-! ### spec_RGTouch: function 29 -/
def spec_RGTouch.f (k : Nat) (a0_0 : Int) (a0_1 : Int) (a0_2 : Int) (a0_3 : Int) (a1_0 : Int) (a1_1 : Int) (a1_2 : Int) (a1_3 : Int) : Option (Bool) := (spec_RGEnds.f k a0_0 a0_1 a0_2 a0_3).bind fun bt121 => ((spec_RGEnds.f k a1_0 a1_1 a1_2 a1_3).bind fun bt123 => (if bt121.1 ≤ bt123.2 then (some (decide (bt123.1 ≤ bt121.2))) else (some false)))
theorem spec_RGTouch.mono : ∀ a0 a1 a2 a3 a4 a5 a6 a7 k, LeO (spec_RGTouch.f k a0 a1 a2 a3 a4 a5 a6 a7) (spec_RGTouch.f (k + 1) a0 a1 a2 a3 a4 a5 a6 a7) := by
  intro a0 a1 a2 a3 a4 a5 a6 a7 k
  unfold spec_RGTouch.f
  repeat' first
      | (with_reducible exact spec_RGEnds.mono _ _ _ _ _)
      | (with_reducible exact LeO.refl _)
      | (with_reducible exact LeO.none _)
      | (with_reducible refine LeO.ite ?_ ?_)
      | (with_reducible refine LeO.bind ?_ (fun _ => ?_))
      | exact spec_RGEnds.mono _ _ _ _ _
      | exact LeO.none _
      | refine LeO.ite ?_ ?_
      | refine LeO.bind ?_ (fun _ => ?_)
set_option maxHeartbeats 8000000 in
set_option maxRecDepth 100000 in
theorem spec_RGTouch.calls (k : Nat) (a0_0 : Int) (a0_1 : Int) (a0_2 : Int) (a0_3 : Int) (a1_0 : Int) (a1_1 : Int) (a1_2 : Int) (a1_3 : Int) (r : Bool) (w : World) (h : spec_RGTouch.f k a0_0 a0_1 a0_2 a0_3 a1_0 a1_1 a1_2 a1_3 = some r) :
    Calls Tryd.prog 29 #[.agg #[.int .i64 a0_0, .int .i64 a0_1, .int .i64 a0_2, .int .i64 a0_3], .agg #[.int .i64 a1_0, .int .i64 a1_1, .int .i64 a1_2, .int .i64 a1_3]] w fun e w' => e = .returned (.bool r) ∧ Below w.heap.size w w' := by
  have hu44 := Tryd.underlying44
  have HB := Aside0.mk (Below.refl w.heap.size w)
  have H : ((spec_RGEnds.f k a0_0 a0_1 a0_2 a0_3).bind fun bt121 => ((spec_RGEnds.f k a1_0 a1_1 a1_2 a1_3).bind fun bt123 => (if bt121.1 ≤ bt123.2 then (some (decide (bt123.1 ≤ bt121.2))) else (some false)))) = some r := h
  clear h
  replace H := Option.bind_eq_some_iff.mp H
  obtain ⟨⟨t121, t122⟩, A30, H⟩ := H
  replace H : ((spec_RGEnds.f k a1_0 a1_1 a1_2 a1_3).bind fun bt123 => (if t121 ≤ bt123.2 then (some (decide (bt123.1 ≤ t122))) else (some false))) = some r := H
  have A3 := Aside0.mk A30
  clear A30
  replace H := Option.bind_eq_some_iff.mp H
  obtain ⟨⟨t123, t124⟩, A40, H⟩ := H
  replace H : (if t121 ≤ t124 then (some (decide (t123 ≤ t122))) else (some false)) = some r := H
  have A4 := Aside0.mk A40
  clear A40
  by_cases c5 : t121 ≤ t124
  · rw [if_pos c5] at H
    have c5b0 : decide (t121 ≤ t124) = true := decide_eq_true c5
    clear c5
    obtain rfl := Option.some.inj H
    go_enter Tryd.func29, Tryd.ntmps29
    go_wp2_with (first | ((with_reducible refine gate_dst (N := 2) rfl ?_); refine box_event ?hg (N := 2) ?hd (cs := #[.int .i64 a0_0, .int .i64 a0_1, .int .i64 a0_2, .int .i64 a0_3]) (t := 44) ?hr ?_; (case hd => rfl); (case hg => rfl); (case hr => first | (go_simp; done) | (go_simp; rfl)); intro gb119 hg w6 hbox hb; have n0_ := Aside0.mk (below_step (by repeat (first | (with_reducible first | exact HB.out | apply below_alloc | apply pw_below_drewN | apply below_drew1) | exact HB.out)) hb); have n1_ := Aside0.mk (hbox); have n2_ := Aside0.mk ((by rw [hg]; exact (below_size (by repeat (first | (with_reducible first | exact HB.out | apply below_alloc | apply pw_below_drewN | apply below_drew1) | exact HB.out))) : w.heap.size ≤ gb119)); have n3_ := Aside0.mk ((by rw [hg]; exact (below_size (by repeat (first | (with_reducible first | exact HB.out | apply below_alloc | apply pw_below_drewN | apply below_drew1) | exact HB.out))) : w.heap.size ≤ gb119)); clear HB; have HB := n0_; have BK119 := n1_; have GW119 := n2_; have GE119 := n3_; clear n0_ n1_ n2_ n3_; clear hb hbox hg) | ((with_reducible refine gate_dst (N := 3) rfl ?_); refine box_event ?hg (N := 3) ?hd (cs := #[.int .i64 a1_0, .int .i64 a1_1, .int .i64 a1_2, .int .i64 a1_3]) (t := 44) ?hr ?_; (case hd => rfl); (case hg => rfl); (case hr => first | (go_simp; done) | (go_simp; rfl)); intro gb120 hg w7 hbox hb; have n0_ := Aside0.mk (blk_below (g := gb119) (o := .cells #[.int .i64 a0_0, .int .i64 a0_1, .int .i64 a0_2, .int .i64 a0_3] 44 (0, 0)) (by (with_reducible repeat (first | refine blk_drewN ?_ _ | refine blk_drew ?_ | refine blk_alloc ?_ _)); exact BK119.out) hb); have n1_ := Aside0.mk (below_step (by repeat (first | (with_reducible first | exact HB.out | apply below_alloc | apply pw_below_drewN | apply below_drew1 | refine below_set ?_ GE119.out) | exact HB.out)) hb); have n2_ := Aside0.mk (hbox); have n3_ := Aside0.mk ((by rw [hg]; exact (below_size (by repeat (first | (with_reducible first | exact HB.out | apply below_alloc | apply pw_below_drewN | apply below_drew1 | refine below_set ?_ GE119.out) | exact HB.out))) : w.heap.size ≤ gb120)); have n4_ := Aside0.mk ((by rw [hg]; exact (below_size (by repeat (first | (with_reducible first | exact HB.out | apply below_alloc | apply pw_below_drewN | apply below_drew1 | refine below_set ?_ GE119.out) | exact HB.out))) : w.heap.size ≤ gb120)); have n5_ := Aside0.mk ((by rw [hg]; exact Nat.ne_of_lt (blk_lt (g := gb119) (o := .cells #[.int .i64 a0_0, .int .i64 a0_1, .int .i64 a0_2, .int .i64 a0_3] 44 (0, 0)) (by (with_reducible repeat (first | refine blk_drewN ?_ _ | refine blk_drew ?_ | refine blk_alloc ?_ _)); exact BK119.out)) : gb119 ≠ gb120)); have n6_ := Aside0.mk ((by rw [hg]; exact Nat.ne_of_gt (blk_lt (g := gb119) (o := .cells #[.int .i64 a0_0, .int .i64 a0_1, .int .i64 a0_2, .int .i64 a0_3] 44 (0, 0)) (by (with_reducible repeat (first | refine blk_drewN ?_ _ | refine blk_drew ?_ | refine blk_alloc ?_ _)); exact BK119.out)) : gb120 ≠ gb119)); clear BK119; clear HB; have BK119 := n0_; have HB := n1_; have BK120 := n2_; have GW120 := n3_; have GE120 := n4_; have NB119_120 := n5_; have NB120_119 := n6_; clear n0_ n1_ n2_ n3_ n4_ n5_ n6_; clear hb hbox hg; have hnb8 := NB119_120.out; have hnc8 := NB120_119.out; have hcz9_0 : w7.cell? ⟨gb119, 0, none⟩ = some (.int .i64 a0_0) := (blk_cell BK119.out 0).trans rfl; have hcz9_1 : w7.cell? ⟨gb119, 1, none⟩ = some (.int .i64 a0_1) := (blk_cell BK119.out 1).trans rfl; have hcz9_2 : w7.cell? ⟨gb119, 2, none⟩ = some (.int .i64 a0_2) := (blk_cell BK119.out 2).trans rfl; have hcz9_3 : w7.cell? ⟨gb119, 3, none⟩ = some (.int .i64 a0_3) := (blk_cell BK119.out 3).trans rfl; have hfz9_0 := blk_frozen BK119.out 0; have hfz9_1 := blk_frozen BK119.out 1; have hfz9_2 := blk_frozen BK119.out 2; have hfz9_3 := blk_frozen BK119.out 3) | ((with_reducible refine gate_callee (f := 65) rfl ?_); refine goesL_ (some 11) rfl rfl Tryd.func65 (by kernel_rfl) rfl #[.agg #[.int .i64 a0_0, .int .i64 a0_1, .int .i64 a0_2, .int .i64 a0_3]] rfl (by (try simp only [List.map_toArray, List.map_cons, List.map_nil]); first | done | rfl | (simp only [List.length_drop, List.length_take]; rfl)) ?_; (with_reducible refine (spec_RGEnds.calls k a0_0 a0_1 a0_2 a0_3 t121 t122 _ A3.out).mono ?_); rintro e w10 ⟨rfl, hb⟩; refine ⟨_, rfl, ?_⟩; have n0_ := Aside0.mk (blk_below (g := gb119) (o := .cells #[.int .i64 a0_0, .int .i64 a0_1, .int .i64 a0_2, .int .i64 a0_3] 44 (0, 0)) (by (with_reducible repeat (first | refine blk_drewN ?_ _ | refine blk_drew ?_ | refine blk_alloc ?_ _)); exact BK119.out) hb); have n1_ := Aside0.mk (blk_below (g := gb120) (o := .cells #[.int .i64 a1_0, .int .i64 a1_1, .int .i64 a1_2, .int .i64 a1_3] 44 (0, 0)) (by (with_reducible repeat (first | refine blk_drewN ?_ _ | refine blk_drew ?_ | refine blk_alloc ?_ _)); exact BK120.out) hb); have n2_ := Aside0.mk (below_step (by repeat (first | (with_reducible first | exact HB.out | apply below_alloc | apply pw_below_drewN | apply below_drew1 | refine below_set ?_ GE119.out | refine below_set ?_ GE120.out) | exact HB.out)) hb); clear BK119; clear BK120; clear HB; have BK119 := n0_; have BK120 := n1_; have HB := n2_; clear n0_ n1_ n2_; (try clear hb); (try clear hb2); (try clear hk); (try clear hi); have hcz11_0 : w10.cell? ⟨gb120, 0, none⟩ = some (.int .i64 a1_0) := (blk_cell BK120.out 0).trans rfl; have hcz11_1 : w10.cell? ⟨gb120, 1, none⟩ = some (.int .i64 a1_1) := (blk_cell BK120.out 1).trans rfl; have hcz11_2 : w10.cell? ⟨gb120, 2, none⟩ = some (.int .i64 a1_2) := (blk_cell BK120.out 2).trans rfl; have hcz11_3 : w10.cell? ⟨gb120, 3, none⟩ = some (.int .i64 a1_3) := (blk_cell BK120.out 3).trans rfl; have hfz11_0 := blk_frozen BK120.out 0; have hfz11_1 := blk_frozen BK120.out 1; have hfz11_2 := blk_frozen BK120.out 2; have hfz11_3 := blk_frozen BK120.out 3) | ((with_reducible refine gate_callee (f := 65) rfl ?_); refine goesL_ (some 16) rfl rfl Tryd.func65 (by kernel_rfl) rfl #[.agg #[.int .i64 a1_0, .int .i64 a1_1, .int .i64 a1_2, .int .i64 a1_3]] rfl (by (try simp only [List.map_toArray, List.map_cons, List.map_nil]); first | done | rfl | (simp only [List.length_drop, List.length_take]; rfl)) ?_; (with_reducible refine (spec_RGEnds.calls k a1_0 a1_1 a1_2 a1_3 t123 t124 _ A4.out).mono ?_); rintro e w12 ⟨rfl, hb⟩; refine ⟨_, rfl, ?_⟩; have n0_ := Aside0.mk (blk_below (g := gb119) (o := .cells #[.int .i64 a0_0, .int .i64 a0_1, .int .i64 a0_2, .int .i64 a0_3] 44 (0, 0)) (by (with_reducible repeat (first | refine blk_drewN ?_ _ | refine blk_drew ?_ | refine blk_alloc ?_ _)); exact BK119.out) hb); have n1_ := Aside0.mk (blk_below (g := gb120) (o := .cells #[.int .i64 a1_0, .int .i64 a1_1, .int .i64 a1_2, .int .i64 a1_3] 44 (0, 0)) (by (with_reducible repeat (first | refine blk_drewN ?_ _ | refine blk_drew ?_ | refine blk_alloc ?_ _)); exact BK120.out) hb); have n2_ := Aside0.mk (below_step (by repeat (first | (with_reducible first | exact HB.out | apply below_alloc | apply pw_below_drewN | apply below_drew1 | refine below_set ?_ GE119.out | refine below_set ?_ GE120.out) | exact HB.out)) hb); clear BK119; clear BK120; clear HB; have BK119 := n0_; have BK120 := n1_; have HB := n2_; clear n0_ n1_ n2_; (try clear hb); (try clear hb2); (try clear hk); (try clear hi)))
    go_ret
    exact ⟨by first | rfl | (simp [errW_none, errW_some] <;> rfl) | (simp [*, errW_none, errW_some] <;> rfl), by repeat (first | (with_reducible first | exact HB.out | apply below_alloc | apply pw_below_drewN | apply below_drew1 | refine below_set ?_ GE119.out | refine below_set ?_ GE120.out) | exact HB.out)⟩
  · rw [if_neg c5] at H
    have c5b0 : decide (t121 ≤ t124) = false := decide_eq_false c5
    clear c5
    obtain rfl := Option.some.inj H
    go_enter Tryd.func29, Tryd.ntmps29
    go_wp2_with (first | ((with_reducible refine gate_dst (N := 2) rfl ?_); refine box_event ?hg (N := 2) ?hd (cs := #[.int .i64 a0_0, .int .i64 a0_1, .int .i64 a0_2, .int .i64 a0_3]) (t := 44) ?hr ?_; (case hd => rfl); (case hg => rfl); (case hr => first | (go_simp; done) | (go_simp; rfl)); intro gb119 hg w13 hbox hb; have n0_ := Aside0.mk (below_step (by repeat (first | (with_reducible first | exact HB.out | apply below_alloc | apply pw_below_drewN | apply below_drew1) | exact HB.out)) hb); have n1_ := Aside0.mk (hbox); have n2_ := Aside0.mk ((by rw [hg]; exact (below_size (by repeat (first | (with_reducible first | exact HB.out | apply below_alloc | apply pw_below_drewN | apply below_drew1) | exact HB.out))) : w.heap.size ≤ gb119)); have n3_ := Aside0.mk ((by rw [hg]; exact (below_size (by repeat (first | (with_reducible first | exact HB.out | apply below_alloc | apply pw_below_drewN | apply below_drew1) | exact HB.out))) : w.heap.size ≤ gb119)); clear HB; have HB := n0_; have BK119 := n1_; have GW119 := n2_; have GE119 := n3_; clear n0_ n1_ n2_ n3_; clear hb hbox hg) | ((with_reducible refine gate_dst (N := 3) rfl ?_); refine box_event ?hg (N := 3) ?hd (cs := #[.int .i64 a1_0, .int .i64 a1_1, .int .i64 a1_2, .int .i64 a1_3]) (t := 44) ?hr ?_; (case hd => rfl); (case hg => rfl); (case hr => first | (go_simp; done) | (go_simp; rfl)); intro gb120 hg w14 hbox hb; have n0_ := Aside0.mk (blk_below (g := gb119) (o := .cells #[.int .i64 a0_0, .int .i64 a0_1, .int .i64 a0_2, .int .i64 a0_3] 44 (0, 0)) (by (with_reducible repeat (first | refine blk_drewN ?_ _ | refine blk_drew ?_ | refine blk_alloc ?_ _)); exact BK119.out) hb); have n1_ := Aside0.mk (below_step (by repeat (first | (with_reducible first | exact HB.out | apply below_alloc | apply pw_below_drewN | apply below_drew1 | refine below_set ?_ GE119.out) | exact HB.out)) hb); have n2_ := Aside0.mk (hbox); have n3_ := Aside0.mk ((by rw [hg]; exact (below_size (by repeat (first | (with_reducible first | exact HB.out | apply below_alloc | apply pw_below_drewN | apply below_drew1 | refine below_set ?_ GE119.out) | exact HB.out))) : w.heap.size ≤ gb120)); have n4_ := Aside0.mk ((by rw [hg]; exact (below_size (by repeat (first | (with_reducible first | exact HB.out | apply below_alloc | apply pw_below_drewN | apply below_drew1 | refine below_set ?_ GE119.out) | exact HB.out))) : w.heap.size ≤ gb120)); have n5_ := Aside0.mk ((by rw [hg]; exact Nat.ne_of_lt (blk_lt (g := gb119) (o := .cells #[.int .i64 a0_0, .int .i64 a0_1, .int .i64 a0_2, .int .i64 a0_3] 44 (0, 0)) (by (with_reducible repeat (first | refine blk_drewN ?_ _ | refine blk_drew ?_ | refine blk_alloc ?_ _)); exact BK119.out)) : gb119 ≠ gb120)); have n6_ := Aside0.mk ((by rw [hg]; exact Nat.ne_of_gt (blk_lt (g := gb119) (o := .cells #[.int .i64 a0_0, .int .i64 a0_1, .int .i64 a0_2, .int .i64 a0_3] 44 (0, 0)) (by (with_reducible repeat (first | refine blk_drewN ?_ _ | refine blk_drew ?_ | refine blk_alloc ?_ _)); exact BK119.out)) : gb120 ≠ gb119)); clear BK119; clear HB; have BK119 := n0_; have HB := n1_; have BK120 := n2_; have GW120 := n3_; have GE120 := n4_; have NB119_120 := n5_; have NB120_119 := n6_; clear n0_ n1_ n2_ n3_ n4_ n5_ n6_; clear hb hbox hg; have hnb15 := NB119_120.out; have hnc15 := NB120_119.out; have hcz16_0 : w14.cell? ⟨gb119, 0, none⟩ = some (.int .i64 a0_0) := (blk_cell BK119.out 0).trans rfl; have hcz16_1 : w14.cell? ⟨gb119, 1, none⟩ = some (.int .i64 a0_1) := (blk_cell BK119.out 1).trans rfl; have hcz16_2 : w14.cell? ⟨gb119, 2, none⟩ = some (.int .i64 a0_2) := (blk_cell BK119.out 2).trans rfl; have hcz16_3 : w14.cell? ⟨gb119, 3, none⟩ = some (.int .i64 a0_3) := (blk_cell BK119.out 3).trans rfl; have hfz16_0 := blk_frozen BK119.out 0; have hfz16_1 := blk_frozen BK119.out 1; have hfz16_2 := blk_frozen BK119.out 2; have hfz16_3 := blk_frozen BK119.out 3) | ((with_reducible refine gate_callee (f := 65) rfl ?_); refine goesL_ (some 11) rfl rfl Tryd.func65 (by kernel_rfl) rfl #[.agg #[.int .i64 a0_0, .int .i64 a0_1, .int .i64 a0_2, .int .i64 a0_3]] rfl (by (try simp only [List.map_toArray, List.map_cons, List.map_nil]); first | done | rfl | (simp only [List.length_drop, List.length_take]; rfl)) ?_; (with_reducible refine (spec_RGEnds.calls k a0_0 a0_1 a0_2 a0_3 t121 t122 _ A3.out).mono ?_); rintro e w17 ⟨rfl, hb⟩; refine ⟨_, rfl, ?_⟩; have n0_ := Aside0.mk (blk_below (g := gb119) (o := .cells #[.int .i64 a0_0, .int .i64 a0_1, .int .i64 a0_2, .int .i64 a0_3] 44 (0, 0)) (by (with_reducible repeat (first | refine blk_drewN ?_ _ | refine blk_drew ?_ | refine blk_alloc ?_ _)); exact BK119.out) hb); have n1_ := Aside0.mk (blk_below (g := gb120) (o := .cells #[.int .i64 a1_0, .int .i64 a1_1, .int .i64 a1_2, .int .i64 a1_3] 44 (0, 0)) (by (with_reducible repeat (first | refine blk_drewN ?_ _ | refine blk_drew ?_ | refine blk_alloc ?_ _)); exact BK120.out) hb); have n2_ := Aside0.mk (below_step (by repeat (first | (with_reducible first | exact HB.out | apply below_alloc | apply pw_below_drewN | apply below_drew1 | refine below_set ?_ GE119.out | refine below_set ?_ GE120.out) | exact HB.out)) hb); clear BK119; clear BK120; clear HB; have BK119 := n0_; have BK120 := n1_; have HB := n2_; clear n0_ n1_ n2_; (try clear hb); (try clear hb2); (try clear hk); (try clear hi); have hcz18_0 : w17.cell? ⟨gb120, 0, none⟩ = some (.int .i64 a1_0) := (blk_cell BK120.out 0).trans rfl; have hcz18_1 : w17.cell? ⟨gb120, 1, none⟩ = some (.int .i64 a1_1) := (blk_cell BK120.out 1).trans rfl; have hcz18_2 : w17.cell? ⟨gb120, 2, none⟩ = some (.int .i64 a1_2) := (blk_cell BK120.out 2).trans rfl; have hcz18_3 : w17.cell? ⟨gb120, 3, none⟩ = some (.int .i64 a1_3) := (blk_cell BK120.out 3).trans rfl; have hfz18_0 := blk_frozen BK120.out 0; have hfz18_1 := blk_frozen BK120.out 1; have hfz18_2 := blk_frozen BK120.out 2; have hfz18_3 := blk_frozen BK120.out 3) | ((with_reducible refine gate_callee (f := 65) rfl ?_); refine goesL_ (some 16) rfl rfl Tryd.func65 (by kernel_rfl) rfl #[.agg #[.int .i64 a1_0, .int .i64 a1_1, .int .i64 a1_2, .int .i64 a1_3]] rfl (by (try simp only [List.map_toArray, List.map_cons, List.map_nil]); first | done | rfl | (simp only [List.length_drop, List.length_take]; rfl)) ?_; (with_reducible refine (spec_RGEnds.calls k a1_0 a1_1 a1_2 a1_3 t123 t124 _ A4.out).mono ?_); rintro e w19 ⟨rfl, hb⟩; refine ⟨_, rfl, ?_⟩; have n0_ := Aside0.mk (blk_below (g := gb119) (o := .cells #[.int .i64 a0_0, .int .i64 a0_1, .int .i64 a0_2, .int .i64 a0_3] 44 (0, 0)) (by (with_reducible repeat (first | refine blk_drewN ?_ _ | refine blk_drew ?_ | refine blk_alloc ?_ _)); exact BK119.out) hb); have n1_ := Aside0.mk (blk_below (g := gb120) (o := .cells #[.int .i64 a1_0, .int .i64 a1_1, .int .i64 a1_2, .int .i64 a1_3] 44 (0, 0)) (by (with_reducible repeat (first | refine blk_drewN ?_ _ | refine blk_drew ?_ | refine blk_alloc ?_ _)); exact BK120.out) hb); have n2_ := Aside0.mk (below_step (by repeat (first | (with_reducible first | exact HB.out | apply below_alloc | apply pw_below_drewN | apply below_drew1 | refine below_set ?_ GE119.out | refine below_set ?_ GE120.out) | exact HB.out)) hb); clear BK119; clear BK120; clear HB; have BK119 := n0_; have BK120 := n1_; have HB := n2_; clear n0_ n1_ n2_; (try clear hb); (try clear hb2); (try clear hk); (try clear hi)))
    go_ret
    exact ⟨by first | rfl | (simp [errW_none, errW_some] <;> rfl) | (simp [*, errW_none, errW_some] <;> rfl), by repeat (first | (with_reducible first | exact HB.out | apply below_alloc | apply pw_below_drewN | apply below_drew1 | refine below_set ?_ GE119.out | refine below_set ?_ GE120.out) | exact HB.out)⟩

/-! ### spec_ISPut: function 100 -/
mutual
def spec_ISPut.l0 : Nat → List Int → Int → List Int → Bool → Int → Option (List Int)
  | 0, _, _, _, _, _ => none
  | k + 1, x0, x1, x5, x6, x7 => if x7 < (x0.length : Int) then (if x6 = true then (spec_ISPut.j1 k x0 x1 x5 x6 x7 false) else (if 0 ≤ x7 then (spec_ISPut.j1 k x0 x1 x5 x6 x7 (decide ((rd x0 x7) ≥ x1))) else (none))) else (if x6 = true then (some x5) else (if x5.length < 17592186044416 then (some (x5 ++ [x1])) else (none)))
def spec_ISPut.j1 : Nat → List Int → Int → List Int → Bool → Int → Bool → Option (List Int)
  | 0, _, _, _, _, _, _ => none
  | k + 1, x0, x1, x5, x6, x7, x23 => if x23 = true then (if x5.length < 17592186044416 then (spec_ISPut.j2 k x0 x1 (x5 ++ [x1]) true x7) else (none)) else (spec_ISPut.j2 k x0 x1 x5 x6 x7)
def spec_ISPut.j2 : Nat → List Int → Int → List Int → Bool → Int → Option (List Int)
  | 0, _, _, _, _, _ => none
  | k + 1, x0, x1, x5, x6, x7 => if 0 ≤ x7 then (if x7 < (x0.length : Int) then (if (rd x0 x7) = x1 then (spec_ISPut.l0 k x0 x1 x5 x6 (wrap64 (x7 + 1))) else (if x5.length < 17592186044416 then (spec_ISPut.l0 k x0 x1 (x5 ++ [rd x0 x7]) x6 (wrap64 (x7 + 1))) else (none))) else (none)) else (none)
end
def spec_ISPut.f (k : Nat) (l0 : List Int) (a1 : Int) : Option (List Int) := spec_ISPut.l0 k l0 a1 ([] : List Int) false 0
theorem spec_ISPut.mono_l : ∀ k, (∀ y0 y1 y2 y3 y4, LeO (spec_ISPut.l0 k y0 y1 y2 y3 y4) (spec_ISPut.l0 (k + 1) y0 y1 y2 y3 y4)) ∧ (∀ y0 y1 y2 y3 y4 y5, LeO (spec_ISPut.j1 k y0 y1 y2 y3 y4 y5) (spec_ISPut.j1 (k + 1) y0 y1 y2 y3 y4 y5)) ∧ (∀ y0 y1 y2 y3 y4, LeO (spec_ISPut.j2 k y0 y1 y2 y3 y4) (spec_ISPut.j2 (k + 1) y0 y1 y2 y3 y4))
  | 0 => ⟨fun _ _ _ _ _ r h => by simp [spec_ISPut.l0] at h, fun _ _ _ _ _ _ r h => by simp [spec_ISPut.j1] at h, fun _ _ _ _ _ r h => by simp [spec_ISPut.j2] at h⟩
  | k + 1 => by
    obtain ⟨ih0, ih1, ih2⟩ := spec_ISPut.mono_l k
    refine ⟨?_, ?_, ?_⟩
    · intro y0 y1 y2 y3 y4
      unfold spec_ISPut.l0
      repeat' first
      | (with_reducible exact ih0 _ _ _ _ _)
      | (with_reducible exact ih1 _ _ _ _ _ _)
      | (with_reducible exact ih2 _ _ _ _ _)
      | (with_reducible exact LeO.refl _)
      | (with_reducible exact LeO.none _)
      | (with_reducible refine LeO.ite ?_ ?_)
      | (with_reducible refine LeO.bind ?_ (fun _ => ?_))
      | exact ih0 _ _ _ _ _
      | exact ih1 _ _ _ _ _ _
      | exact ih2 _ _ _ _ _
      | exact LeO.none _
      | refine LeO.ite ?_ ?_
      | refine LeO.bind ?_ (fun _ => ?_)
    · intro y0 y1 y2 y3 y4 y5
      unfold spec_ISPut.j1
      repeat' first
      | (with_reducible exact ih0 _ _ _ _ _)
      | (with_reducible exact ih1 _ _ _ _ _ _)
      | (with_reducible exact ih2 _ _ _ _ _)
      | (with_reducible exact LeO.refl _)
      | (with_reducible exact LeO.none _)
      | (with_reducible refine LeO.ite ?_ ?_)
      | (with_reducible refine LeO.bind ?_ (fun _ => ?_))
      | exact ih0 _ _ _ _ _
      | exact ih1 _ _ _ _ _ _
      | exact ih2 _ _ _ _ _
      | exact LeO.none _
      | refine LeO.ite ?_ ?_
      | refine LeO.bind ?_ (fun _ => ?_)
    · intro y0 y1 y2 y3 y4
      unfold spec_ISPut.j2
      repeat' first
      | (with_reducible exact ih0 _ _ _ _ _)
      | (with_reducible exact ih1 _ _ _ _ _ _)
      | (with_reducible exact ih2 _ _ _ _ _)
      | (with_reducible exact LeO.refl _)
      | (with_reducible exact LeO.none _)
      | (with_reducible refine LeO.ite ?_ ?_)
      | (with_reducible refine LeO.bind ?_ (fun _ => ?_))
      | exact ih0 _ _ _ _ _
      | exact ih1 _ _ _ _ _ _
      | exact ih2 _ _ _ _ _
      | exact LeO.none _
      | refine LeO.ite ?_ ?_
      | refine LeO.bind ?_ (fun _ => ?_)
theorem spec_ISPut.mono : ∀ a0 a1 k, LeO (spec_ISPut.f k a0 a1) (spec_ISPut.f (k + 1) a0 a1) := by
  intro a0 a1 k
  obtain ⟨ih0, ih1, ih2⟩ := spec_ISPut.mono_l k
  unfold spec_ISPut.f
  repeat' first
      | (with_reducible exact ih0 _ _ _ _ _)
      | (with_reducible exact ih1 _ _ _ _ _ _)
      | (with_reducible exact ih2 _ _ _ _ _)
      | (with_reducible exact LeO.refl _)
      | (with_reducible exact LeO.none _)
      | (with_reducible refine LeO.ite ?_ ?_)
      | (with_reducible refine LeO.bind ?_ (fun _ => ?_))
      | exact ih0 _ _ _ _ _
      | exact ih1 _ _ _ _ _ _
      | exact ih2 _ _ _ _ _
      | exact LeO.none _
      | refine LeO.ite ?_ ?_
      | refine LeO.bind ?_ (fun _ => ?_)
set_option maxHeartbeats 8000000 in
set_option maxRecDepth 100000 in
theorem spec_ISPut.calls (k : Nat) (A0 : Option Addr) (c0 : Nat) (l0 : List Int) (a1 : Int) (r : List Int) (w : World) (hr0 : Kd.C (Kd.int .i64) w A0 l0.length l0) (hc0 : l0.length ≤ c0) (h : spec_ISPut.f k l0 a1 = some r) :
    Calls Tryd.prog 100 #[.slice A0 l0.length c0, .int .i64 a1] w fun e w' => ∃ v0_ : Value, e = .returned (v0_) ∧ Kd.R (Kd.int .i64) 3 w' w.heap.size (fun _ => True) v0_ r ∧ Below w.heap.size w w' := by
  have HR0 := Aside0.mk hr0
  have HC0 := Aside0.mk hc0
  clear hr0 hc0
  have HB := Aside0.mk (Below.refl w.heap.size w)
  have H : (spec_ISPut.l0 k l0 a1 ([] : List Int) false 0) = some r := h
  clear h
  have H' := Aside0.mk H
  clear H
  go_enter Tryd.func100, Tryd.ntmps100
  go_wp2
  go_loopg [5, 6, 7] k (fun kq v5 v6 v7 w' => ∃ (x5_1 : List Int) (x6_1 : Bool) (x7_1 : Int), v6 = .bool x6_1 ∧ v7 = .int .i64 x7_1 ∧ Aside0 (spec_ISPut.l0 kq l0 a1 x5_1 x6_1 x7_1 = some r) ∧ Aside0 (kq ≤ k) ∧ Aside0 (Kd.R (Kd.int .i64) 3 w' w.heap.size (fun _ => True) v5 x5_1) ∧ Aside0 (Below w.heap.size w w'))
  case atStart => exact ⟨(([] : List Int)), (false), (0), (by first | rfl | (simp; done) | (simp [*]; done)), (by first | rfl | (simp; done) | (simp [*]; done)), H', ⟨Nat.le_refl _⟩, ⟨by first | exact Kd.R_nil _ _ _ _ _ | exact Kd.N_nil _ _ _ _ _ | exact Kd.V_nil _ _ _ _ _ | exact Kd.Q_nil _ _ _ _ _ | exact Kd.S_nil _ _ _ _ _⟩, ⟨by repeat (first | (with_reducible first | exact HB.out | apply below_alloc | apply pw_below_drewN | apply below_drew1) | exact HB.out)⟩⟩
  case round =>
    clear H'
    try clear c1
    try clear p2
    obtain ⟨x5_1, x6_1, x7_1, rfl, rfl, HA, HK1, HO_5, HB⟩ := hrel
    cases gk with
    | zero => exact absurd HA.out (by simp [spec_ISPut.l0])
    | succ k1 =>
      have H := HA.out
      clear HA
      simp only [spec_ISPut.l0] at H
      by_cases c3 : x7_1 < (l0.length : Int)
      · rw [if_pos c3] at H
        have c3b0 : decide (x7_1 < (l0.length : Int)) = true := decide_eq_true c3
        clear c3
        have HC4 := Aside0.mk H
        clear H
        go_upto_region 6 with (fail)
        go_cut [23] (fun v23 wc => ∃ (kq : Nat) (x23_3 : Bool), v23 = .bool x23_3 ∧ Aside0 (spec_ISPut.j1 kq l0 a1 x5_1 x6_1 x7_1 x23_3 = some r) ∧ Aside0 (kq ≤ k1) ∧ Aside0 (Kd.R (Kd.int .i64) 3 wc w.heap.size (fun _ => True) u5 x5_1) ∧ Aside0 (Below w.heap.size w wc))
        case first =>
          have H := HC4.out
          clear HC4
          by_cases c5 : x6_1 = true
          · subst c5
            have H1 : (spec_ISPut.j1 k1 l0 a1 x5_1 true x7_1 false) = some r := by rw [if_pos rfl] at H; exact H
            clear H
            have H := H1
            clear H1
            have H' := Aside0.mk H
            clear H
            go_wp2
            go_meet
            case rel => exact ⟨_, (false), (by first | rfl | (simp; done) | (simp [*]; done)), H', ⟨by have := HK1.out; first | omega | exact Nat.le_refl _⟩, ⟨by (with_reducible repeat (first | apply Kd.R_alloc | apply Kd.R_drewN | apply Kd.R_drew)); exact HO_5.out⟩, ⟨by repeat (first | (with_reducible first | exact HB.out | apply below_alloc | apply pw_below_drewN | apply below_drew1) | exact HB.out)⟩⟩
          · replace c5 := Bool.eq_false_iff.mpr c5
            subst c5
            have H1 : (if 0 ≤ x7_1 then (spec_ISPut.j1 k1 l0 a1 x5_1 false x7_1 (decide ((rd l0 x7_1) ≥ a1))) else (none)) = some r := by rw [if_neg (show ¬ (false = true) by decide)] at H; exact H
            clear H
            have H := H1
            clear H1
            by_cases c6 : 0 ≤ x7_1
            · rw [if_pos c6] at H
              have c6b0 : decide (0 ≤ x7_1) = true := decide_eq_true c6
              clear c6
              (first | rw [c6b0] | (simp only [i64_w, i32_w]; rw [c6b0]) | skip)
              have H' := Aside0.mk H
              clear H
              have p125 : 0 ≤ (x7_1 : Int) := of_decide_eq_true (by first | (with_reducible assumption) | assumption)
              have q125 : x7_1 < (l0.length : Int) := of_decide_eq_true (by first | (with_reducible assumption) | assumption)
              obtain ⟨ad125, e125, hx125_0⟩ := Kd.at_int HR0.out x7_1 p125 q125
              cases e125
              replace hx125_0 := (HB.out.cell (World.block_lt_of_cell? w _ hx125_0)).trans hx125_0
              replace p125 := eq_true p125
              replace q125 := eq_true q125
              go_wp2
              go_meet
              case rel => exact ⟨_, (decide ((rd l0 x7_1) ≥ a1)), (by first | rfl | (simp; done) | (simp [*]; done)), H', ⟨by have := HK1.out; first | omega | exact Nat.le_refl _⟩, ⟨by (with_reducible repeat (first | apply Kd.R_alloc | apply Kd.R_drewN | apply Kd.R_drew)); exact HO_5.out⟩, ⟨by repeat (first | (with_reducible first | exact HB.out | apply below_alloc | apply pw_below_drewN | apply below_drew1) | exact HB.out)⟩⟩
            · rw [if_neg c6] at H
              exact absurd H (by simp)
        case rest =>
          clear HC4
          try clear c1
          try clear p1
          try clear q1
          try clear hx1
          try clear p2
          try clear c3
          try clear c3b0
          try clear c5
          try clear c6
          try clear c6b0
          try clear hx125_0
          try clear p125
          try clear p2
          try clear q125
          obtain ⟨kq, x23_3, rfl, HA, HJ3, HO_5, HB⟩ := hcut
          cases kq with
          | zero => exact absurd HA.out (by simp [spec_ISPut.j1])
          | succ kj3 =>
            have H := HA.out
            clear HA
            simp only [spec_ISPut.j1] at H
            have HC7 := Aside0.mk H
            clear H
            go_upto_if 23 with (fail)
            go_cut [5, 6] (fun v5 v6 wc => ∃ (kq : Nat) (x5_6 : List Int) (x6_6 : Bool), v6 = .bool x6_6 ∧ Aside0 (spec_ISPut.j2 kq l0 a1 x5_6 x6_6 x7_1 = some r) ∧ Aside0 (kq ≤ kj3) ∧ Aside0 (Kd.R (Kd.int .i64) 3 wc w.heap.size (fun _ => True) v5 x5_6) ∧ Aside0 (Below w.heap.size w wc))
            case first =>
              have H := HC7.out
              clear HC7
              by_cases c8 : x23_3 = true
              · subst c8
                have H1 : (if x5_1.length < 17592186044416 then (spec_ISPut.j2 kj3 l0 a1 (x5_1 ++ [a1]) true x7_1) else (none)) = some r := by rw [if_pos rfl] at H; exact H
                clear H
                have H := H1
                clear H1
                by_cases c9 : x5_1.length < 17592186044416
                · rw [if_pos c9] at H
                  have LMc9 := Aside0.mk c9
                  clear c9
                  obtain ⟨y126, hy126⟩ : ∃ y_ : List Int, y_ = (x5_1 ++ [a1]) := ⟨_, rfl⟩
                  replace H : (spec_ISPut.j2 kj3 l0 a1 y126 true x7_1) = some r := by first | (rw [hy126]; with_reducible exact H) | (have H2_ := (Option.bind_some _ _).symm.trans H; rw [hy126]; with_reducible exact H2_) | (have H2_ := (Option.bind_some _ _).symm.trans H; with_reducible exact H2_) | with_reducible exact H | (rw [hy126]; exact H) | exact H
                  have Ny126 := Aside0.mk hy126
                  clear hy126
                  have H' := Aside0.mk H
                  clear H
                  go_wp2_with (first | ((with_reducible refine gate_builtin (b := .append) (xs := #[.tmp 24, .tmp 26]) rfl ?_); at_builtin; refine Kd.R_append (Kd.int .i64) (w0 := w) w.heap.size rfl (.tmp 24) (.tmp 26) 111 3 (.int .i64 0) 8 rfl Tryd.underlying111 info3 rfl (by decide) (by omega) u5 x5_1 a1 [.int .i64 a1] (fun _ => True) (fun _ => False) rfl rfl ?aP (fun _ hk => hk.elim) ?aF ?aO ?aB ?aS ?aL ?_; (case aP => exact rfl); (case aB => exact (by repeat (first | (with_reducible first | exact HB.out | apply below_alloc | apply pw_below_drewN | apply below_drew1) | exact HB.out))); (case aF => exact (fun _ _ => trivial)); (case aO => exact (by (with_reducible repeat (first | apply Kd.R_alloc | apply Kd.R_drewN | apply Kd.R_drew)); exact HO_5.out)); (case aS => exact (below_size (by repeat (first | (with_reducible first | exact HB.out | apply below_alloc | apply pw_below_drewN | apply below_drew1) | exact HB.out)))); (case aL => have := LMc9.out; omega); intro v127 w10 ho hb hg hat; rw [← Ny126.out] at ho; have n0_ := Aside0.mk (hb); have n1_ := Aside0.mk (ho); clear HB; clear HO_5; have HB := n0_; have HO128 := n1_; clear n0_ n1_; clear ho hb hg hat))
                  go_meet
                  case rel => exact ⟨_, (y126), (true), (by first | rfl | (simp; done) | (simp [*]; done)), H', ⟨by have := HK1.out; have := HJ3.out; first | omega | exact Nat.le_refl _⟩, ⟨by (with_reducible repeat (first | apply Kd.R_alloc | apply Kd.R_drewN | apply Kd.R_drew)); exact HO128.out⟩, ⟨by repeat (first | (with_reducible first | exact HB.out | apply below_alloc | apply pw_below_drewN | apply below_drew1) | exact HB.out)⟩⟩
                · rw [if_neg c9] at H
                  exact absurd H (by simp)
              · replace c8 := Bool.eq_false_iff.mpr c8
                subst c8
                have H1 : (spec_ISPut.j2 kj3 l0 a1 x5_1 x6_1 x7_1) = some r := by rw [if_neg (show ¬ (false = true) by decide)] at H; exact H
                clear H
                have H := H1
                clear H1
                have H' := Aside0.mk H
                clear H
                go_wp2
                go_meet
                case rel => exact ⟨_, (x5_1), (x6_1), (by first | rfl | (simp; done) | (simp [*]; done)), H', ⟨by have := HK1.out; have := HJ3.out; first | omega | exact Nat.le_refl _⟩, ⟨by (with_reducible repeat (first | apply Kd.R_alloc | apply Kd.R_drewN | apply Kd.R_drew)); exact HO_5.out⟩, ⟨by repeat (first | (with_reducible first | exact HB.out | apply below_alloc | apply pw_below_drewN | apply below_drew1) | exact HB.out)⟩⟩
            case rest =>
              clear HC7
              try clear c1
              try clear p1
              try clear q1
              try clear hx1
              try clear p2
              try clear c3
              try clear c3b0
              try clear c5
              try clear c6
              try clear c6b0
              try clear c8
              try clear c9
              try clear c10
              try clear hx125_0
              try clear p1
              try clear p125
              try clear p2
              try clear q1
              try clear q125
              obtain ⟨kq, x5_6, x6_6, rfl, HA, HJ6, HO_5, HB⟩ := hcut
              cases kq with
              | zero => exact absurd HA.out (by simp [spec_ISPut.j2])
              | succ kj6 =>
                have H := HA.out
                clear HA
                simp only [spec_ISPut.j2] at H
                by_cases c11 : 0 ≤ x7_1
                · rw [if_pos c11] at H
                  have c11b0 : decide (0 ≤ x7_1) = true := decide_eq_true c11
                  clear c11
                  by_cases c12 : x7_1 < (l0.length : Int)
                  · rw [if_pos c12] at H
                    have c12b0 : decide (x7_1 < (l0.length : Int)) = true := decide_eq_true c12
                    clear c12
                    by_cases c13 : (rd l0 x7_1) = a1
                    · rw [if_pos c13] at H
                      have c13b0 : ((rd l0 x7_1) == a1) = true := beq_iff_eq.mpr c13
                      have c13b1 : ((rd l0 x7_1) != a1) = false := bne_eq_false_iff_eq.mpr c13
                      clear c13
                      have H' := Aside0.mk H
                      clear H
                      have p129 : 0 ≤ (x7_1 : Int) := of_decide_eq_true (by first | (with_reducible assumption) | assumption)
                      have q129 : x7_1 < (l0.length : Int) := of_decide_eq_true (by first | (with_reducible assumption) | assumption)
                      obtain ⟨ad129, e129, hx129_0⟩ := Kd.at_int HR0.out x7_1 p129 q129
                      cases e129
                      replace hx129_0 := (HB.out.cell (World.block_lt_of_cell? w _ hx129_0)).trans hx129_0
                      replace p129 := eq_true p129
                      replace q129 := eq_true q129
                      go_wp2
                      go_roundg kj6
                      case measure => have := HK1.out; have := HJ3.out; have := HJ6.out; omega
                      case rel => exact ⟨(x5_6), (x6_6), (wrap64 (x7_1 + 1)), (by first | rfl | (simp; done) | (simp [*]; done)), (by first | rfl | (simp; done) | (simp [*]; done)), H', ⟨by have := HK1.out; have := HJ3.out; have := HJ6.out; omega⟩, ⟨by (with_reducible repeat (first | apply Kd.R_alloc | apply Kd.R_drewN | apply Kd.R_drew)); exact HO_5.out⟩, ⟨by repeat (first | (with_reducible first | exact HB.out | apply below_alloc | apply pw_below_drewN | apply below_drew1) | exact HB.out)⟩⟩
                    · rw [if_neg c13] at H
                      have c13b0 : ((rd l0 x7_1) == a1) = false := beq_eq_false_iff_ne.mpr c13
                      have c13b1 : ((rd l0 x7_1) != a1) = true := bne_iff_ne.mpr c13
                      by_cases c14 : x5_6.length < 17592186044416
                      · rw [if_pos c14] at H
                        have LMc14 := Aside0.mk c14
                        clear c14
                        obtain ⟨y131, hy131⟩ : ∃ y_ : List Int, y_ = (x5_6 ++ [rd l0 x7_1]) := ⟨_, rfl⟩
                        replace H : (spec_ISPut.l0 kj6 l0 a1 y131 x6_6 (wrap64 (x7_1 + 1))) = some r := by first | (rw [hy131]; with_reducible exact H) | (have H2_ := (Option.bind_some _ _).symm.trans H; rw [hy131]; with_reducible exact H2_) | (have H2_ := (Option.bind_some _ _).symm.trans H; with_reducible exact H2_) | with_reducible exact H | (rw [hy131]; exact H) | exact H
                        have Ny131 := Aside0.mk hy131
                        clear hy131
                        have H' := Aside0.mk H
                        clear H
                        have p129 : 0 ≤ (x7_1 : Int) := of_decide_eq_true (by first | (with_reducible assumption) | assumption)
                        have q129 : x7_1 < (l0.length : Int) := of_decide_eq_true (by first | (with_reducible assumption) | assumption)
                        obtain ⟨ad129, e129, hx129_0⟩ := Kd.at_int HR0.out x7_1 p129 q129
                        cases e129
                        replace hx129_0 := (HB.out.cell (World.block_lt_of_cell? w _ hx129_0)).trans hx129_0
                        replace p129 := eq_true p129
                        replace q129 := eq_true q129
                        have p130 : 0 ≤ (x7_1 : Int) := of_decide_eq_true (by first | (with_reducible assumption) | assumption)
                        have q130 : x7_1 < (l0.length : Int) := of_decide_eq_true (by first | (with_reducible assumption) | assumption)
                        obtain ⟨ad130, e130, hx130_0⟩ := Kd.at_int HR0.out x7_1 p130 q130
                        obtain rfl : ad129 = ad130 := (by injection e130)
                        replace hx130_0 := (HB.out.cell (World.block_lt_of_cell? w _ hx130_0)).trans hx130_0
                        replace p130 := eq_true p130
                        replace q130 := eq_true q130
                        go_wp2_with (first | ((with_reducible refine gate_builtin (b := .append) (xs := #[.tmp 34, .tmp 39]) rfl ?_); at_builtin; refine Kd.R_append (Kd.int .i64) (w0 := w) w.heap.size rfl (.tmp 34) (.tmp 39) 111 3 (.int .i64 0) 8 rfl Tryd.underlying111 info3 rfl (by decide) (by omega) u5 x5_6 (rd l0 x7_1) [.int .i64 (rd l0 x7_1)] (fun _ => True) (fun _ => False) rfl rfl ?aP (fun _ hk => hk.elim) ?aF ?aO ?aB ?aS ?aL ?_; (case aP => exact rfl); (case aB => exact (by repeat (first | (with_reducible first | exact HB.out | apply below_alloc | apply pw_below_drewN | apply below_drew1) | exact HB.out))); (case aF => exact (fun _ _ => trivial)); (case aO => exact (by (with_reducible repeat (first | apply Kd.R_alloc | apply Kd.R_drewN | apply Kd.R_drew)); exact HO_5.out)); (case aS => exact (below_size (by repeat (first | (with_reducible first | exact HB.out | apply below_alloc | apply pw_below_drewN | apply below_drew1) | exact HB.out)))); (case aL => have := LMc14.out; omega); intro v132 w15 ho hb hg hat; rw [← Ny131.out] at ho; have n0_ := Aside0.mk (hb); have n1_ := Aside0.mk (ho); clear HB; clear HO_5; have HB := n0_; have HO133 := n1_; clear n0_ n1_; clear ho hb hg hat))
                        go_roundg kj6
                        case measure => have := HK1.out; have := HJ3.out; have := HJ6.out; omega
                        case rel => exact ⟨(y131), (x6_6), (wrap64 (x7_1 + 1)), (by first | rfl | (simp; done) | (simp [*]; done)), (by first | rfl | (simp; done) | (simp [*]; done)), H', ⟨by have := HK1.out; have := HJ3.out; have := HJ6.out; omega⟩, ⟨by (with_reducible repeat (first | apply Kd.R_alloc | apply Kd.R_drewN | apply Kd.R_drew)); exact HO133.out⟩, ⟨by repeat (first | (with_reducible first | exact HB.out | apply below_alloc | apply pw_below_drewN | apply below_drew1) | exact HB.out)⟩⟩
                      · rw [if_neg c14] at H
                        exact absurd H (by simp)
                  · rw [if_neg c12] at H
                    exact absurd H (by simp)
                · rw [if_neg c11] at H
                  exact absurd H (by simp)
      · rw [if_neg c3] at H
        have c3b0 : decide (x7_1 < (l0.length : Int)) = false := decide_eq_false c3
        clear c3
        by_cases c16 : x6_1 = true
        · subst c16
          have H1 : (some x5_1) = some r := by rw [if_pos rfl] at H; exact H
          clear H
          have H := H1
          clear H1
          obtain rfl := Option.some.inj H
          go_wp2
          go_ret
          exact ⟨_, by first | rfl | (simp [errW_none, errW_some] <;> rfl) | (simp [*, errW_none, errW_some] <;> rfl), by (with_reducible repeat (first | apply Kd.R_alloc | apply Kd.R_drewN | apply Kd.R_drew)); exact HO_5.out, by repeat (first | (with_reducible first | exact HB.out | apply below_alloc | apply pw_below_drewN | apply below_drew1) | exact HB.out)⟩
        · replace c16 := Bool.eq_false_iff.mpr c16
          subst c16
          have H1 : (if x5_1.length < 17592186044416 then (some (x5_1 ++ [a1])) else (none)) = some r := by rw [if_neg (show ¬ (false = true) by decide)] at H; exact H
          clear H
          have H := H1
          clear H1
          by_cases c17 : x5_1.length < 17592186044416
          · rw [if_pos c17] at H
            have LMc17 := Aside0.mk c17
            clear c17
            obtain ⟨y134, hy134⟩ : ∃ y_ : List Int, y_ = (x5_1 ++ [a1]) := ⟨_, rfl⟩
            replace H : (some y134) = some r := by first | (rw [hy134]; with_reducible exact H) | (have H2_ := (Option.bind_some _ _).symm.trans H; rw [hy134]; with_reducible exact H2_) | (have H2_ := (Option.bind_some _ _).symm.trans H; with_reducible exact H2_) | with_reducible exact H | (rw [hy134]; exact H) | exact H
            have Ny134 := Aside0.mk hy134
            clear hy134
            obtain rfl := Option.some.inj H
            go_wp2_with (first | ((with_reducible refine gate_builtin (b := .append) (xs := #[.tmp 43, .tmp 45]) rfl ?_); at_builtin; refine Kd.R_append (Kd.int .i64) (w0 := w) w.heap.size rfl (.tmp 43) (.tmp 45) 111 3 (.int .i64 0) 8 rfl Tryd.underlying111 info3 rfl (by decide) (by omega) u5 x5_1 a1 [.int .i64 a1] (fun _ => True) (fun _ => False) rfl rfl ?aP (fun _ hk => hk.elim) ?aF ?aO ?aB ?aS ?aL ?_; (case aP => exact rfl); (case aB => exact (by repeat (first | (with_reducible first | exact HB.out | apply below_alloc | apply pw_below_drewN | apply below_drew1) | exact HB.out))); (case aF => exact (fun _ _ => trivial)); (case aO => exact (by (with_reducible repeat (first | apply Kd.R_alloc | apply Kd.R_drewN | apply Kd.R_drew)); exact HO_5.out)); (case aS => exact (below_size (by repeat (first | (with_reducible first | exact HB.out | apply below_alloc | apply pw_below_drewN | apply below_drew1) | exact HB.out)))); (case aL => have := LMc17.out; omega); intro v135 w18 ho hb hg hat; rw [← Ny134.out] at ho; have n0_ := Aside0.mk (hb); have n1_ := Aside0.mk (ho); clear HB; clear HO_5; have HB := n0_; have HO136 := n1_; clear n0_ n1_; clear ho hb hg hat))
            go_ret
            exact ⟨_, by first | rfl | (simp [errW_none, errW_some] <;> rfl) | (simp [*, errW_none, errW_some] <;> rfl), by (with_reducible repeat (first | apply Kd.R_alloc | apply Kd.R_drewN | apply Kd.R_drew)); exact HO136.out, by repeat (first | (with_reducible first | exact HB.out | apply below_alloc | apply pw_below_drewN | apply below_drew1) | exact HB.out)⟩
          · rw [if_neg c17] at H
            exact absurd H (by simp)

/-! ### spec_RGPlaces: function 87 -/
def spec_RGPlaces.l0 : Nat → List (S44) → List Int → Int → Option (List Int)
  | 0, _, _, _ => none
  | k + 1, x0, x3, x4 => if x4 < (x0.length : Int) then (if 0 ≤ x4 then ((spec_RGEnds.f k ((rd_T44 x0 x4).f0.f0) ((rd_T44 x0 x4).f0.f1) ((rd_T44 x0 x4).f1.f0) ((rd_T44 x0 x4).f1.f1)).bind fun bt141 => ((spec_ISPut.f k x3 bt141.1).bind fun t143 => ((spec_ISPut.f k t143 bt141.2).bind fun t146 => (spec_RGPlaces.l0 k x0 t146 (wrap64 (x4 + 1)))))) else (none)) else (some x3)
def spec_RGPlaces.f (k : Nat) (l0 : List (S44)) : Option (List Int) := spec_RGPlaces.l0 k l0 (([0] : List Int)) 0
theorem spec_RGPlaces.mono_l : ∀ k, (∀ y0 y1 y2, LeO (spec_RGPlaces.l0 k y0 y1 y2) (spec_RGPlaces.l0 (k + 1) y0 y1 y2))
  | 0 => fun _ _ _ r h => by simp [spec_RGPlaces.l0] at h
  | k + 1 => by
    have ih0 := spec_RGPlaces.mono_l k
    · intro y0 y1 y2
      unfold spec_RGPlaces.l0
      repeat' first
      | (with_reducible exact ih0 _ _ _)
      | (with_reducible exact spec_ISPut.mono _ _ _)
      | (with_reducible exact spec_RGEnds.mono _ _ _ _ _)
      | (with_reducible exact LeO.refl _)
      | (with_reducible exact LeO.none _)
      | (with_reducible refine LeO.ite ?_ ?_)
      | (with_reducible refine LeO.bind ?_ (fun _ => ?_))
      | exact ih0 _ _ _
      | exact spec_ISPut.mono _ _ _
      | exact spec_RGEnds.mono _ _ _ _ _
      | exact LeO.none _
      | refine LeO.ite ?_ ?_
      | refine LeO.bind ?_ (fun _ => ?_)
theorem spec_RGPlaces.mono : ∀ a0 k, LeO (spec_RGPlaces.f k a0) (spec_RGPlaces.f (k + 1) a0) := by
  intro a0 k
  have ih0 := spec_RGPlaces.mono_l k
  unfold spec_RGPlaces.f
  repeat' first
      | (with_reducible exact ih0 _ _ _)
      | (with_reducible exact spec_ISPut.mono _ _ _)
      | (with_reducible exact spec_RGEnds.mono _ _ _ _ _)
      | (with_reducible exact LeO.refl _)
      | (with_reducible exact LeO.none _)
      | (with_reducible refine LeO.ite ?_ ?_)
      | (with_reducible refine LeO.bind ?_ (fun _ => ?_))
      | exact ih0 _ _ _
      | exact spec_ISPut.mono _ _ _
      | exact spec_RGEnds.mono _ _ _ _ _
      | exact LeO.none _
      | refine LeO.ite ?_ ?_
      | refine LeO.bind ?_ (fun _ => ?_)
set_option maxHeartbeats 8000000 in
set_option maxRecDepth 100000 in
theorem spec_RGPlaces.calls (k : Nat) (A0 : Option Addr) (c0 : Nat) (l0 : List (S44)) (r : List Int) (w : World) (hr0 : Kd.C k44 w A0 l0.length l0) (hc0 : l0.length ≤ c0) (h : spec_RGPlaces.f k l0 = some r) :
    Calls Tryd.prog 87 #[.slice A0 l0.length c0] w fun e w' => ∃ v0_ : Value, e = .returned (v0_) ∧ Kd.R (Kd.int .i64) 3 w' w.heap.size (fun _ => True) v0_ r ∧ Below w.heap.size w w' := by
  have hu44 := Tryd.underlying44
  have HR0 := Aside0.mk hr0
  have HC0 := Aside0.mk hc0
  clear hr0 hc0
  have HB := Aside0.mk (Below.refl w.heap.size w)
  have H : (spec_RGPlaces.l0 k l0 (([0] : List Int)) 0) = some r := h
  clear h
  obtain ⟨y137, hy137⟩ : ∃ y_ : List Int, y_ = (([0] : List Int)) := ⟨_, rfl⟩
  replace H : (spec_RGPlaces.l0 k l0 y137 0) = some r := by first | (rw [hy137]; with_reducible exact H) | (have H2_ := (Option.bind_some _ _).symm.trans H; rw [hy137]; with_reducible exact H2_) | (have H2_ := (Option.bind_some _ _).symm.trans H; with_reducible exact H2_) | with_reducible exact H | (rw [hy137]; exact H) | exact H
  have Ny137 := Aside0.mk hy137
  clear hy137
  have H' := Aside0.mk H
  clear H
  go_enter Tryd.func87, Tryd.ntmps87
  go_wp2_with (first | ((with_reducible refine gate_dst (N := 7) rfl ?_); refine Kd.R_lit (Kd.int .i64) _ 3 ?hg (N := 7) ?hd (xs := ([0] : List Int)) (inner := [.int .i64 0]) (ok := fun _ => True) (okp := fun _ => True) ?hr ?hp (fun _ hk => hk) trivial (Below.refl _ _) (Nat.le_refl _) (by simp) ?_; (case hd => rfl); (case hg => rfl); (case hr => first | (go_simp; done) | (go_simp; rfl)); (case hp => exact (Reps.one (show Kd.M (Kd.int .i64) _ _ _ 0 [.int .i64 0] from rfl) (Reps.none _ _))); intro v138 w2 ho3 hb hg_ hnew_; clear hg_ hnew_; (first | rw [← Ny137.out] at ho3 | (simp only [Int.reduceToNat] at ho3; rw [← Ny137.out] at ho3)); have n0_ := Aside0.mk (Kd.R_lower ho3 (below_size (by repeat (first | (with_reducible first | exact HB.out | apply below_alloc | apply pw_below_drewN | apply below_drew1) | exact HB.out)))); have n1_ := Aside0.mk (below_step (by repeat (first | (with_reducible first | exact HB.out | apply below_alloc | apply pw_below_drewN | apply below_drew1) | exact HB.out)) hb); clear HB; have HO139 := n0_; have HB := n1_; clear n0_ n1_; clear hb ho3))
  go_loopg [3, 4] k (fun kq v3 v4 w' => ∃ (x3_1 : List Int) (x4_1 : Int), v4 = .int .i64 x4_1 ∧ Aside0 (spec_RGPlaces.l0 kq l0 x3_1 x4_1 = some r) ∧ Aside0 (kq ≤ k) ∧ Aside0 (Kd.R (Kd.int .i64) 3 w' w.heap.size (fun _ => True) v3 x3_1) ∧ Aside0 (Below w.heap.size w w'))
  case atStart => exact ⟨(y137), (0), (by first | rfl | (simp; done) | (simp [*]; done)), H', ⟨Nat.le_refl _⟩, ⟨by (with_reducible repeat (first | apply Kd.R_alloc | apply Kd.R_drewN | apply Kd.R_drew)); exact HO139.out⟩, ⟨by repeat (first | (with_reducible first | exact HB.out | apply below_alloc | apply pw_below_drewN | apply below_drew1) | exact HB.out)⟩⟩
  case round =>
    clear H'
    try clear p2
    obtain ⟨x3_1, x4_1, rfl, HA, HK1, HO_3, HB⟩ := hrel
    cases gk with
    | zero => exact absurd HA.out (by simp [spec_RGPlaces.l0])
    | succ k1 =>
      have H := HA.out
      clear HA
      simp only [spec_RGPlaces.l0] at H
      by_cases c4 : x4_1 < (l0.length : Int)
      · rw [if_pos c4] at H
        have c4b0 : decide (x4_1 < (l0.length : Int)) = true := decide_eq_true c4
        clear c4
        by_cases c5 : 0 ≤ x4_1
        · rw [if_pos c5] at H
          have c5b0 : decide (0 ≤ x4_1) = true := decide_eq_true c5
          clear c5
          replace H := Option.bind_eq_some_iff.mp H
          obtain ⟨⟨t141, t142⟩, A60, H⟩ := H
          replace H : ((spec_ISPut.f k1 x3_1 t141).bind fun t143 => ((spec_ISPut.f k1 t143 t142).bind fun t146 => (spec_RGPlaces.l0 k1 l0 t146 (wrap64 (x4_1 + 1))))) = some r := H
          have A6 := Aside0.mk A60
          clear A60
          replace H := Option.bind_eq_some_iff.mp H
          obtain ⟨t143, A70, H⟩ := H
          replace H : ((spec_ISPut.f k1 t143 t142).bind fun t146 => (spec_RGPlaces.l0 k1 l0 t146 (wrap64 (x4_1 + 1)))) = some r := H
          have A7 := Aside0.mk A70
          clear A70
          replace H := Option.bind_eq_some_iff.mp H
          obtain ⟨t146, A80, H⟩ := H
          replace H : (spec_RGPlaces.l0 k1 l0 t146 (wrap64 (x4_1 + 1))) = some r := H
          have A8 := Aside0.mk A80
          clear A80
          have H' := Aside0.mk H
          clear H
          have p140 : 0 ≤ (x4_1 : Int) := of_decide_eq_true (by first | (with_reducible assumption) | assumption)
          have q140 : x4_1 < (l0.length : Int) := of_decide_eq_true (by first | (with_reducible assumption) | assumption)
          obtain ⟨ad140, e140, hx140_0, hx140_1, hx140_2, hx140_3⟩ := at_T44 HR0.out x4_1 p140 q140
          cases e140
          replace hx140_0 := (HB.out.cell (World.block_lt_of_cell? w _ hx140_0)).trans hx140_0
          replace hx140_1 := (HB.out.cell (World.block_lt_of_cell? w _ hx140_1)).trans hx140_1
          replace hx140_2 := (HB.out.cell (World.block_lt_of_cell? w _ hx140_2)).trans hx140_2
          replace hx140_3 := (HB.out.cell (World.block_lt_of_cell? w _ hx140_3)).trans hx140_3
          replace p140 := eq_true p140
          replace q140 := eq_true q140
          go_wp2_with (first | ((with_reducible refine gate_callee (f := 65) rfl ?_); refine goesL_ (some 19) rfl rfl Tryd.func65 (by kernel_rfl) rfl #[.agg #[.int .i64 ((rd_T44 l0 x4_1).f0.f0), .int .i64 ((rd_T44 l0 x4_1).f0.f1), .int .i64 ((rd_T44 l0 x4_1).f1.f0), .int .i64 ((rd_T44 l0 x4_1).f1.f1)]] rfl (by (try simp only [List.map_toArray, List.map_cons, List.map_nil]); first | done | rfl | (simp only [List.length_drop, List.length_take]; rfl)) ?_; (with_reducible refine (spec_RGEnds.calls k1 ((rd_T44 l0 x4_1).f0.f0) ((rd_T44 l0 x4_1).f0.f1) ((rd_T44 l0 x4_1).f1.f0) ((rd_T44 l0 x4_1).f1.f1) t141 t142 _ A6.out).mono ?_); rintro e w9 ⟨rfl, hb⟩; refine ⟨_, rfl, ?_⟩; have n0_ := Aside0.mk (Kd.R_below (by (with_reducible repeat (first | apply Kd.R_alloc | apply Kd.R_drewN | apply Kd.R_drew)); exact HO_3.out) hb); have n1_ := Aside0.mk (below_step (by repeat (first | (with_reducible first | exact HB.out | apply below_alloc | apply pw_below_drewN | apply below_drew1) | exact HB.out)) hb); clear HO_3; clear HB; have HO_3 := n0_; have HB := n1_; clear n0_ n1_; (try clear hb); (try clear hb2); (try clear hk); (try clear hi); obtain ⟨Ao10, co10, eo10⟩ := Kd.R_slice HO_3.out; subst eo10) | ((with_reducible refine gate_callee (f := 100) rfl ?_); refine goesL_ (some 24) rfl rfl Tryd.func100 (by kernel_rfl) rfl #[.slice Ao10 x3_1.length co10, .int .i64 t141] rfl (by (try simp only [List.map_toArray, List.map_cons, List.map_nil]); first | done | rfl | (simp only [List.length_drop, List.length_take]; rfl)) ?_; (with_reducible refine (spec_ISPut.calls k1 _ _ x3_1 t141 t143 _ ?side1 ?side2 A7.out).mono ?_); (case side1 => repeat (first | exact (Kd.R_reads' HO_3.out).2.2 | (with_reducible refine Kd.C_alloc ?_ _) | (with_reducible refine Kd.C_drewN ?_ _) | (with_reducible refine Kd.C_drew ?_))); (case side2 => exact (Kd.R_reads' HO_3.out).2.1); rintro e w11 ⟨v144, rfl, ho0, hb⟩; refine ⟨_, rfl, ?_⟩; have n0_ := Aside0.mk (Kd.R_elder' (by (with_reducible repeat (first | apply Kd.R_alloc | apply Kd.R_drewN | apply Kd.R_drew)); exact HO_3.out) (Kd.R_base ho0) hb); have n1_ := Aside0.mk (Kd.R_lower (Kd.R_new' ho0 (Kd.R_lt (by (with_reducible repeat (first | apply Kd.R_alloc | apply Kd.R_drewN | apply Kd.R_drew)); exact HO_3.out))) (below_size (by repeat (first | (with_reducible first | exact HB.out | apply below_alloc | apply pw_below_drewN | apply below_drew1) | exact HB.out)))); have n2_ := Aside0.mk (below_step (by repeat (first | (with_reducible first | exact HB.out | apply below_alloc | apply pw_below_drewN | apply below_drew1) | exact HB.out)) hb); clear HO_3; clear HB; have HO_3 := n0_; have HO145 := n1_; have HB := n2_; clear n0_ n1_ n2_; (try clear hb); (try clear hb2); (try clear hk); (try clear hi); (try clear ho0); obtain ⟨Ao12, co12, eo12⟩ := Kd.R_slice HO145.out; subst eo12) | ((with_reducible refine gate_callee (f := 100) rfl ?_); refine goesL_ (some 26) rfl rfl Tryd.func100 (by kernel_rfl) rfl #[.slice Ao12 t143.length co12, .int .i64 t142] rfl (by (try simp only [List.map_toArray, List.map_cons, List.map_nil]); first | done | rfl | (simp only [List.length_drop, List.length_take]; rfl)) ?_; (with_reducible refine (spec_ISPut.calls k1 _ _ t143 t142 t146 _ ?side1 ?side2 A8.out).mono ?_); (case side1 => repeat (first | exact (Kd.R_reads' HO145.out).2.2 | (with_reducible refine Kd.C_alloc ?_ _) | (with_reducible refine Kd.C_drewN ?_ _) | (with_reducible refine Kd.C_drew ?_))); (case side2 => exact (Kd.R_reads' HO145.out).2.1); rintro e w13 ⟨v147, rfl, ho0, hb⟩; refine ⟨_, rfl, ?_⟩; have n0_ := Aside0.mk (Kd.R_elder' (by (with_reducible repeat (first | apply Kd.R_alloc | apply Kd.R_drewN | apply Kd.R_drew)); exact HO_3.out) (Kd.R_base ho0) hb); have n1_ := Aside0.mk (Kd.R_elder' (by (with_reducible repeat (first | apply Kd.R_alloc | apply Kd.R_drewN | apply Kd.R_drew)); exact HO145.out) (Kd.R_base ho0) hb); have n2_ := Aside0.mk (Kd.R_lower (Kd.R_new' (Kd.R_new' ho0 (Kd.R_lt (by (with_reducible repeat (first | apply Kd.R_alloc | apply Kd.R_drewN | apply Kd.R_drew)); exact HO_3.out))) (Kd.R_lt (by (with_reducible repeat (first | apply Kd.R_alloc | apply Kd.R_drewN | apply Kd.R_drew)); exact HO145.out))) (below_size (by repeat (first | (with_reducible first | exact HB.out | apply below_alloc | apply pw_below_drewN | apply below_drew1) | exact HB.out)))); have n3_ := Aside0.mk (below_step (by repeat (first | (with_reducible first | exact HB.out | apply below_alloc | apply pw_below_drewN | apply below_drew1) | exact HB.out)) hb); clear HO_3; clear HO145; clear HB; have HO_3 := n0_; have HO145 := n1_; have HO148 := n2_; have HB := n3_; clear n0_ n1_ n2_ n3_; (try clear hb); (try clear hb2); (try clear hk); (try clear hi); (try clear ho0)))
          go_roundg k1
          case measure => have := HK1.out; omega
          case rel => exact ⟨(t146), (wrap64 (x4_1 + 1)), (by first | rfl | (simp; done) | (simp [*]; done)), H', ⟨by have := HK1.out; omega⟩, ⟨by (with_reducible repeat (first | apply Kd.R_alloc | apply Kd.R_drewN | apply Kd.R_drew)); exact Kd.R_mono HO148.out (fun _ hk => trivial)⟩, ⟨by repeat (first | (with_reducible first | exact HB.out | apply below_alloc | apply pw_below_drewN | apply below_drew1) | exact HB.out)⟩⟩
        · rw [if_neg c5] at H
          exact absurd H (by simp)
      · rw [if_neg c4] at H
        have c4b0 : decide (x4_1 < (l0.length : Int)) = false := decide_eq_false c4
        clear c4
        obtain rfl := Option.some.inj H
        go_wp2
        go_ret
        exact ⟨_, by first | rfl | (simp [errW_none, errW_some] <;> rfl) | (simp [*, errW_none, errW_some] <;> rfl), by (with_reducible repeat (first | apply Kd.R_alloc | apply Kd.R_drewN | apply Kd.R_drew)); exact HO_3.out, by repeat (first | (with_reducible first | exact HB.out | apply below_alloc | apply pw_below_drewN | apply below_drew1) | exact HB.out)⟩

/-! ### spec_RRColumn: function 88 -/
def spec_RRColumn.l0 : Nat → List (List (S44)) → Int → List (S44) → Int → Option ((List (S44)))
  | 0, _, _, _, _ => none
  | k + 1, x0, x1, x5, x6 => if x6 < (x0.length : Int) then (if 0 ≤ x6 then (if x1 < ((rd_L3 x0 x6).length : Int) then (if 0 ≤ x1 then (if x5.length < 4398046511104 then (spec_RRColumn.l0 k x0 x1 (x5 ++ [(⟨(⟨(rd_T44 (rd_L3 x0 x6) x1).f0.f0, (rd_T44 (rd_L3 x0 x6) x1).f0.f1⟩ : S23), (⟨(rd_T44 (rd_L3 x0 x6) x1).f1.f0, (rd_T44 (rd_L3 x0 x6) x1).f1.f1⟩ : S23)⟩ : S44)]) (wrap64 (x6 + 1))) else (none)) else (none)) else (spec_RRColumn.l0 k x0 x1 x5 (wrap64 (x6 + 1)))) else (none)) else (some x5)
def spec_RRColumn.f (k : Nat) (l0 : List (List (S44))) (a1 : Int) : Option ((List (S44))) := spec_RRColumn.l0 k l0 a1 ([] : List (S44)) 0
theorem spec_RRColumn.mono_l : ∀ k, (∀ y0 y1 y2 y3, LeO (spec_RRColumn.l0 k y0 y1 y2 y3) (spec_RRColumn.l0 (k + 1) y0 y1 y2 y3))
  | 0 => fun _ _ _ _ r h => by simp [spec_RRColumn.l0] at h
  | k + 1 => by
    have ih0 := spec_RRColumn.mono_l k
    · intro y0 y1 y2 y3
      unfold spec_RRColumn.l0
      repeat' first
      | (with_reducible exact ih0 _ _ _ _)
      | (with_reducible exact LeO.refl _)
      | (with_reducible exact LeO.none _)
      | (with_reducible refine LeO.ite ?_ ?_)
      | (with_reducible refine LeO.bind ?_ (fun _ => ?_))
      | exact ih0 _ _ _ _
      | exact LeO.none _
      | refine LeO.ite ?_ ?_
      | refine LeO.bind ?_ (fun _ => ?_)
theorem spec_RRColumn.mono : ∀ a0 a1 k, LeO (spec_RRColumn.f k a0 a1) (spec_RRColumn.f (k + 1) a0 a1) := by
  intro a0 a1 k
  have ih0 := spec_RRColumn.mono_l k
  unfold spec_RRColumn.f
  repeat' first
      | (with_reducible exact ih0 _ _ _ _)
      | (with_reducible exact LeO.refl _)
      | (with_reducible exact LeO.none _)
      | (with_reducible refine LeO.ite ?_ ?_)
      | (with_reducible refine LeO.bind ?_ (fun _ => ?_))
      | exact ih0 _ _ _ _
      | exact LeO.none _
      | refine LeO.ite ?_ ?_
      | refine LeO.bind ?_ (fun _ => ?_)
set_option maxHeartbeats 8000000 in
set_option maxRecDepth 100000 in
theorem spec_RRColumn.calls (k : Nat) (A0 : Option Addr) (c0 : Nat) (l0 : List (List (S44))) (a1 : Int) (r : List (S44)) (w : World) (hr0 : Kd.C (Kd.slice 44 k44) w A0 l0.length l0) (hc0 : l0.length ≤ c0) (h : spec_RRColumn.f k l0 a1 = some r) :
    Calls Tryd.prog 88 #[.slice A0 l0.length c0, .int .i64 a1] w fun e w' => ∃ v0_ : Value, e = .returned (v0_) ∧ Kd.R k44 44 w' w.heap.size (fun _ => True) v0_ r ∧ Below w.heap.size w w' := by
  have hu44 := Tryd.underlying44
  have HR0 := Aside0.mk hr0
  have HC0 := Aside0.mk hc0
  clear hr0 hc0
  have HB := Aside0.mk (Below.refl w.heap.size w)
  have H : (spec_RRColumn.l0 k l0 a1 ([] : List (S44)) 0) = some r := h
  clear h
  have H' := Aside0.mk H
  clear H
  go_enter Tryd.func88, Tryd.ntmps88
  go_wp2
  go_loopg [5, 6] k (fun kq v5 v6 w' => ∃ (x5_1 : List (S44)) (x6_1 : Int), v6 = .int .i64 x6_1 ∧ Aside0 (spec_RRColumn.l0 kq l0 a1 x5_1 x6_1 = some r) ∧ Aside0 (kq ≤ k) ∧ Aside0 (Kd.R k44 44 w' w.heap.size (fun _ => True) v5 x5_1) ∧ Aside0 (Below w.heap.size w w'))
  case atStart => exact ⟨(([] : List (S44))), (0), (by first | rfl | (simp; done) | (simp [*]; done)), H', ⟨Nat.le_refl _⟩, ⟨by first | exact Kd.R_nil _ _ _ _ _ | exact Kd.N_nil _ _ _ _ _ | exact Kd.V_nil _ _ _ _ _ | exact Kd.Q_nil _ _ _ _ _ | exact Kd.S_nil _ _ _ _ _⟩, ⟨by repeat (first | (with_reducible first | exact HB.out | apply below_alloc | apply pw_below_drewN | apply below_drew1) | exact HB.out)⟩⟩
  case round =>
    clear H'
    try clear p2
    obtain ⟨x5_1, x6_1, rfl, HA, HK1, HO_5, HB⟩ := hrel
    cases gk with
    | zero => exact absurd HA.out (by simp [spec_RRColumn.l0])
    | succ k1 =>
      have H := HA.out
      clear HA
      simp only [spec_RRColumn.l0] at H
      by_cases c3 : x6_1 < (l0.length : Int)
      · rw [if_pos c3] at H
        have c3b0 : decide (x6_1 < (l0.length : Int)) = true := decide_eq_true c3
        clear c3
        by_cases c4 : 0 ≤ x6_1
        · rw [if_pos c4] at H
          have c4b0 : decide (0 ≤ x6_1) = true := decide_eq_true c4
          clear c4
          by_cases c5 : a1 < ((rd_L3 l0 x6_1).length : Int)
          · rw [if_pos c5] at H
            have c5b0 : decide (a1 < ((rd_L3 l0 x6_1).length : Int)) = true := decide_eq_true c5
            clear c5
            by_cases c6 : 0 ≤ a1
            · rw [if_pos c6] at H
              have c6b0 : decide (0 ≤ a1) = true := decide_eq_true c6
              clear c6
              by_cases c7 : x5_1.length < 4398046511104
              · rw [if_pos c7] at H
                have LMc7 := Aside0.mk c7
                clear c7
                obtain ⟨y152, hy152⟩ : ∃ y_ : List (S44), y_ = (x5_1 ++ [(⟨(⟨(rd_T44 (rd_L3 l0 x6_1) a1).f0.f0, (rd_T44 (rd_L3 l0 x6_1) a1).f0.f1⟩ : S23), (⟨(rd_T44 (rd_L3 l0 x6_1) a1).f1.f0, (rd_T44 (rd_L3 l0 x6_1) a1).f1.f1⟩ : S23)⟩ : S44)]) := ⟨_, rfl⟩
                replace H : (spec_RRColumn.l0 k1 l0 a1 y152 (wrap64 (x6_1 + 1))) = some r := by first | (rw [hy152]; with_reducible exact H) | (have H2_ := (Option.bind_some _ _).symm.trans H; rw [hy152]; with_reducible exact H2_) | (have H2_ := (Option.bind_some _ _).symm.trans H; with_reducible exact H2_) | with_reducible exact H | (rw [hy152]; exact H) | exact H
                have Ny152 := Aside0.mk hy152
                clear hy152
                have H' := Aside0.mk H
                clear H
                have p149 : 0 ≤ (x6_1 : Int) := of_decide_eq_true (by first | (with_reducible assumption) | assumption)
                have q149 : x6_1 < (l0.length : Int) := of_decide_eq_true (by first | (with_reducible assumption) | assumption)
                obtain ⟨ad149, A149_0, c149_0, e149, hx149_0, hl149_0, hi149_0⟩ := at_L3 HR0.out x6_1 p149 q149
                cases e149
                replace hx149_0 := (HB.out.cell (World.block_lt_of_cell? w _ hx149_0)).trans hx149_0
                have HR149_0 := Aside0.mk hi149_0
                have HC149_0 := Aside0.mk hl149_0
                clear hi149_0 hl149_0
                replace p149 := eq_true p149
                replace q149 := eq_true q149
                have p150 : 0 ≤ (x6_1 : Int) := of_decide_eq_true (by first | (with_reducible assumption) | assumption)
                have q150 : x6_1 < (l0.length : Int) := of_decide_eq_true (by first | (with_reducible assumption) | assumption)
                obtain ⟨ad150, A150_0, c150_0, e150, hx150_0, hl150_0, hi150_0⟩ := at_L3 HR0.out x6_1 p150 q150
                obtain rfl : ad149 = ad150 := (by injection e150)
                replace hx150_0 := (HB.out.cell (World.block_lt_of_cell? w _ hx150_0)).trans hx150_0
                have HR150_0 := Aside0.mk hi150_0
                have HC150_0 := Aside0.mk hl150_0
                clear hi150_0 hl150_0
                replace p150 := eq_true p150
                replace q150 := eq_true q150
                have ea_ := Option.some.inj (hx149_0.symm.trans hx150_0)
                injection ea_ with ea_ en_ ec_
                subst ea_
                subst ec_
                clear en_
                have p151 : 0 ≤ (a1 : Int) := of_decide_eq_true (by first | (with_reducible assumption) | assumption)
                have q151 : a1 < ((rd_L3 l0 x6_1).length : Int) := of_decide_eq_true (by first | (with_reducible assumption) | assumption)
                obtain ⟨ad151, e151, hx151_0, hx151_1, hx151_2, hx151_3⟩ := at_T44 HR150_0.out a1 p151 q151
                cases e151
                replace hx151_0 := (HB.out.cell (World.block_lt_of_cell? w _ hx151_0)).trans hx151_0
                replace hx151_1 := (HB.out.cell (World.block_lt_of_cell? w _ hx151_1)).trans hx151_1
                replace hx151_2 := (HB.out.cell (World.block_lt_of_cell? w _ hx151_2)).trans hx151_2
                replace hx151_3 := (HB.out.cell (World.block_lt_of_cell? w _ hx151_3)).trans hx151_3
                replace p151 := eq_true p151
                replace q151 := eq_true q151
                go_wp2_with (first | ((with_reducible refine gate_builtin (b := .append) (xs := #[.tmp 20, .tmp 28]) rfl ?_); at_builtin; refine Kd.R_append k44 (w0 := w) w.heap.size rfl (.tmp 20) (.tmp 28) 40 44 (.agg #[(.int .i64 0), (.int .i64 0), (.int .i64 0), (.int .i64 0)]) 32 rfl Tryd.underlying40 info44 rfl (by decide) (by omega) u5 x5_1 (⟨(⟨(rd_T44 (rd_L3 l0 x6_1) a1).f0.f0, (rd_T44 (rd_L3 l0 x6_1) a1).f0.f1⟩ : S23), (⟨(rd_T44 (rd_L3 l0 x6_1) a1).f1.f0, (rd_T44 (rd_L3 l0 x6_1) a1).f1.f1⟩ : S23)⟩ : S44) [.int .i64 ((rd_T44 (rd_L3 l0 x6_1) a1).f0.f0), .int .i64 ((rd_T44 (rd_L3 l0 x6_1) a1).f0.f1), .int .i64 ((rd_T44 (rd_L3 l0 x6_1) a1).f1.f0), .int .i64 ((rd_T44 (rd_L3 l0 x6_1) a1).f1.f1)] (fun _ => True) (fun _ => False) rfl rfl ?aP (fun _ hk => hk.elim) ?aF ?aO ?aB ?aS ?aL ?_; (case aP => exact k44_mkM _ _ _ (⟨(⟨(rd_T44 (rd_L3 l0 x6_1) a1).f0.f0, (rd_T44 (rd_L3 l0 x6_1) a1).f0.f1⟩ : S23), (⟨(rd_T44 (rd_L3 l0 x6_1) a1).f1.f0, (rd_T44 (rd_L3 l0 x6_1) a1).f1.f1⟩ : S23)⟩ : S44)); (case aB => exact (by repeat (first | (with_reducible first | exact HB.out | apply below_alloc | apply pw_below_drewN | apply below_drew1) | exact HB.out))); (case aF => exact (fun _ _ => trivial)); (case aO => exact (by (with_reducible repeat (first | apply Kd.R_alloc | apply Kd.R_drewN | apply Kd.R_drew)); exact HO_5.out)); (case aS => exact (below_size (by repeat (first | (with_reducible first | exact HB.out | apply below_alloc | apply pw_below_drewN | apply below_drew1) | exact HB.out)))); (case aL => have := LMc7.out; omega); intro v153 w8 ho hb hg hat; rw [← Ny152.out] at ho; have n0_ := Aside0.mk (hb); have n1_ := Aside0.mk (ho); clear HB; clear HO_5; have HB := n0_; have HO154 := n1_; clear n0_ n1_; clear ho hb hg hat))
                go_roundg k1
                case measure => have := HK1.out; omega
                case rel => exact ⟨(y152), (wrap64 (x6_1 + 1)), (by first | rfl | (simp; done) | (simp [*]; done)), H', ⟨by have := HK1.out; omega⟩, ⟨by (with_reducible repeat (first | apply Kd.R_alloc | apply Kd.R_drewN | apply Kd.R_drew)); exact HO154.out⟩, ⟨by repeat (first | (with_reducible first | exact HB.out | apply below_alloc | apply pw_below_drewN | apply below_drew1) | exact HB.out)⟩⟩
              · rw [if_neg c7] at H
                exact absurd H (by simp)
            · rw [if_neg c6] at H
              exact absurd H (by simp)
          · rw [if_neg c5] at H
            have c5b0 : decide (a1 < ((rd_L3 l0 x6_1).length : Int)) = false := decide_eq_false c5
            clear c5
            have H' := Aside0.mk H
            clear H
            have p149 : 0 ≤ (x6_1 : Int) := of_decide_eq_true (by first | (with_reducible assumption) | assumption)
            have q149 : x6_1 < (l0.length : Int) := of_decide_eq_true (by first | (with_reducible assumption) | assumption)
            obtain ⟨ad149, A149_0, c149_0, e149, hx149_0, hl149_0, hi149_0⟩ := at_L3 HR0.out x6_1 p149 q149
            cases e149
            replace hx149_0 := (HB.out.cell (World.block_lt_of_cell? w _ hx149_0)).trans hx149_0
            have HR149_0 := Aside0.mk hi149_0
            have HC149_0 := Aside0.mk hl149_0
            clear hi149_0 hl149_0
            replace p149 := eq_true p149
            replace q149 := eq_true q149
            go_wp2
            go_roundg k1
            case measure => have := HK1.out; omega
            case rel => exact ⟨(x5_1), (wrap64 (x6_1 + 1)), (by first | rfl | (simp; done) | (simp [*]; done)), H', ⟨by have := HK1.out; omega⟩, ⟨by (with_reducible repeat (first | apply Kd.R_alloc | apply Kd.R_drewN | apply Kd.R_drew)); exact HO_5.out⟩, ⟨by repeat (first | (with_reducible first | exact HB.out | apply below_alloc | apply pw_below_drewN | apply below_drew1) | exact HB.out)⟩⟩
        · rw [if_neg c4] at H
          exact absurd H (by simp)
      · rw [if_neg c3] at H
        have c3b0 : decide (x6_1 < (l0.length : Int)) = false := decide_eq_false c3
        clear c3
        obtain rfl := Option.some.inj H
        go_wp2
        go_ret
        exact ⟨_, by first | rfl | (simp [errW_none, errW_some] <;> rfl) | (simp [*, errW_none, errW_some] <;> rfl), by (with_reducible repeat (first | apply Kd.R_alloc | apply Kd.R_drewN | apply Kd.R_drew)); exact HO_5.out, by repeat (first | (with_reducible first | exact HB.out | apply below_alloc | apply pw_below_drewN | apply below_drew1) | exact HB.out)⟩

-- NOT PRINTED: function 71 (spec_RRAll)

/-! ### spec_RGIn: function 89 -/
def spec_RGIn.f (k : Nat) (a0_0 : Int) (a0_1 : Int) (a0_2 : Int) (a0_3 : Int) (a1 : Int) : Option (Bool) := (spec_RGEnds.f k a0_0 a0_1 a0_2 a0_3).bind fun bt185 => (if bt185.1 ≤ a1 then (some (decide (a1 < bt185.2))) else (some false))
theorem spec_RGIn.mono : ∀ a0 a1 a2 a3 a4 k, LeO (spec_RGIn.f k a0 a1 a2 a3 a4) (spec_RGIn.f (k + 1) a0 a1 a2 a3 a4) := by
  intro a0 a1 a2 a3 a4 k
  unfold spec_RGIn.f
  repeat' first
      | (with_reducible exact spec_RGEnds.mono _ _ _ _ _)
      | (with_reducible exact LeO.refl _)
      | (with_reducible exact LeO.none _)
      | (with_reducible refine LeO.ite ?_ ?_)
      | (with_reducible refine LeO.bind ?_ (fun _ => ?_))
      | exact spec_RGEnds.mono _ _ _ _ _
      | exact LeO.none _
      | refine LeO.ite ?_ ?_
      | refine LeO.bind ?_ (fun _ => ?_)
set_option maxHeartbeats 8000000 in
set_option maxRecDepth 100000 in
theorem spec_RGIn.calls (k : Nat) (a0_0 : Int) (a0_1 : Int) (a0_2 : Int) (a0_3 : Int) (a1 : Int) (r : Bool) (w : World) (h : spec_RGIn.f k a0_0 a0_1 a0_2 a0_3 a1 = some r) :
    Calls Tryd.prog 89 #[.agg #[.int .i64 a0_0, .int .i64 a0_1, .int .i64 a0_2, .int .i64 a0_3], .int .i64 a1] w fun e w' => e = .returned (.bool r) ∧ Below w.heap.size w w' := by
  have hu44 := Tryd.underlying44
  have HB := Aside0.mk (Below.refl w.heap.size w)
  have H : ((spec_RGEnds.f k a0_0 a0_1 a0_2 a0_3).bind fun bt185 => (if bt185.1 ≤ a1 then (some (decide (a1 < bt185.2))) else (some false))) = some r := h
  clear h
  replace H := Option.bind_eq_some_iff.mp H
  obtain ⟨⟨t185, t186⟩, A30, H⟩ := H
  replace H : (if t185 ≤ a1 then (some (decide (a1 < t186))) else (some false)) = some r := H
  have A3 := Aside0.mk A30
  clear A30
  by_cases c4 : t185 ≤ a1
  · rw [if_pos c4] at H
    have c4b0 : decide (t185 ≤ a1) = true := decide_eq_true c4
    clear c4
    obtain rfl := Option.some.inj H
    go_enter Tryd.func89, Tryd.ntmps89
    go_wp2_with (first | ((with_reducible refine gate_dst (N := 2) rfl ?_); refine box_event ?hg (N := 2) ?hd (cs := #[.int .i64 a0_0, .int .i64 a0_1, .int .i64 a0_2, .int .i64 a0_3]) (t := 44) ?hr ?_; (case hd => rfl); (case hg => rfl); (case hr => first | (go_simp; done) | (go_simp; rfl)); intro gb184 hg w5 hbox hb; have n0_ := Aside0.mk (below_step (by repeat (first | (with_reducible first | exact HB.out | apply below_alloc | apply pw_below_drewN | apply below_drew1) | exact HB.out)) hb); have n1_ := Aside0.mk (hbox); have n2_ := Aside0.mk ((by rw [hg]; exact (below_size (by repeat (first | (with_reducible first | exact HB.out | apply below_alloc | apply pw_below_drewN | apply below_drew1) | exact HB.out))) : w.heap.size ≤ gb184)); have n3_ := Aside0.mk ((by rw [hg]; exact (below_size (by repeat (first | (with_reducible first | exact HB.out | apply below_alloc | apply pw_below_drewN | apply below_drew1) | exact HB.out))) : w.heap.size ≤ gb184)); clear HB; have HB := n0_; have BK184 := n1_; have GW184 := n2_; have GE184 := n3_; clear n0_ n1_ n2_ n3_; clear hb hbox hg; have hcz6_0 : w5.cell? ⟨gb184, 0, none⟩ = some (.int .i64 a0_0) := (blk_cell BK184.out 0).trans rfl; have hcz6_1 : w5.cell? ⟨gb184, 1, none⟩ = some (.int .i64 a0_1) := (blk_cell BK184.out 1).trans rfl; have hcz6_2 : w5.cell? ⟨gb184, 2, none⟩ = some (.int .i64 a0_2) := (blk_cell BK184.out 2).trans rfl; have hcz6_3 : w5.cell? ⟨gb184, 3, none⟩ = some (.int .i64 a0_3) := (blk_cell BK184.out 3).trans rfl; have hfz6_0 := blk_frozen BK184.out 0; have hfz6_1 := blk_frozen BK184.out 1; have hfz6_2 := blk_frozen BK184.out 2; have hfz6_3 := blk_frozen BK184.out 3) | ((with_reducible refine gate_callee (f := 65) rfl ?_); refine goesL_ (some 9) rfl rfl Tryd.func65 (by kernel_rfl) rfl #[.agg #[.int .i64 a0_0, .int .i64 a0_1, .int .i64 a0_2, .int .i64 a0_3]] rfl (by (try simp only [List.map_toArray, List.map_cons, List.map_nil]); first | done | rfl | (simp only [List.length_drop, List.length_take]; rfl)) ?_; (with_reducible refine (spec_RGEnds.calls k a0_0 a0_1 a0_2 a0_3 t185 t186 _ A3.out).mono ?_); rintro e w7 ⟨rfl, hb⟩; refine ⟨_, rfl, ?_⟩; have n0_ := Aside0.mk (blk_below (g := gb184) (o := .cells #[.int .i64 a0_0, .int .i64 a0_1, .int .i64 a0_2, .int .i64 a0_3] 44 (0, 0)) (by (with_reducible repeat (first | refine blk_drewN ?_ _ | refine blk_drew ?_ | refine blk_alloc ?_ _)); exact BK184.out) hb); have n1_ := Aside0.mk (below_step (by repeat (first | (with_reducible first | exact HB.out | apply below_alloc | apply pw_below_drewN | apply below_drew1 | refine below_set ?_ GE184.out) | exact HB.out)) hb); clear BK184; clear HB; have BK184 := n0_; have HB := n1_; clear n0_ n1_; (try clear hb); (try clear hb2); (try clear hk); (try clear hi)))
    go_ret
    exact ⟨by first | rfl | (simp [errW_none, errW_some] <;> rfl) | (simp [*, errW_none, errW_some] <;> rfl), by repeat (first | (with_reducible first | exact HB.out | apply below_alloc | apply pw_below_drewN | apply below_drew1 | refine below_set ?_ GE184.out) | exact HB.out)⟩
  · rw [if_neg c4] at H
    have c4b0 : decide (t185 ≤ a1) = false := decide_eq_false c4
    clear c4
    obtain rfl := Option.some.inj H
    go_enter Tryd.func89, Tryd.ntmps89
    go_wp2_with (first | ((with_reducible refine gate_dst (N := 2) rfl ?_); refine box_event ?hg (N := 2) ?hd (cs := #[.int .i64 a0_0, .int .i64 a0_1, .int .i64 a0_2, .int .i64 a0_3]) (t := 44) ?hr ?_; (case hd => rfl); (case hg => rfl); (case hr => first | (go_simp; done) | (go_simp; rfl)); intro gb184 hg w8 hbox hb; have n0_ := Aside0.mk (below_step (by repeat (first | (with_reducible first | exact HB.out | apply below_alloc | apply pw_below_drewN | apply below_drew1) | exact HB.out)) hb); have n1_ := Aside0.mk (hbox); have n2_ := Aside0.mk ((by rw [hg]; exact (below_size (by repeat (first | (with_reducible first | exact HB.out | apply below_alloc | apply pw_below_drewN | apply below_drew1) | exact HB.out))) : w.heap.size ≤ gb184)); have n3_ := Aside0.mk ((by rw [hg]; exact (below_size (by repeat (first | (with_reducible first | exact HB.out | apply below_alloc | apply pw_below_drewN | apply below_drew1) | exact HB.out))) : w.heap.size ≤ gb184)); clear HB; have HB := n0_; have BK184 := n1_; have GW184 := n2_; have GE184 := n3_; clear n0_ n1_ n2_ n3_; clear hb hbox hg; have hcz9_0 : w8.cell? ⟨gb184, 0, none⟩ = some (.int .i64 a0_0) := (blk_cell BK184.out 0).trans rfl; have hcz9_1 : w8.cell? ⟨gb184, 1, none⟩ = some (.int .i64 a0_1) := (blk_cell BK184.out 1).trans rfl; have hcz9_2 : w8.cell? ⟨gb184, 2, none⟩ = some (.int .i64 a0_2) := (blk_cell BK184.out 2).trans rfl; have hcz9_3 : w8.cell? ⟨gb184, 3, none⟩ = some (.int .i64 a0_3) := (blk_cell BK184.out 3).trans rfl; have hfz9_0 := blk_frozen BK184.out 0; have hfz9_1 := blk_frozen BK184.out 1; have hfz9_2 := blk_frozen BK184.out 2; have hfz9_3 := blk_frozen BK184.out 3) | ((with_reducible refine gate_callee (f := 65) rfl ?_); refine goesL_ (some 9) rfl rfl Tryd.func65 (by kernel_rfl) rfl #[.agg #[.int .i64 a0_0, .int .i64 a0_1, .int .i64 a0_2, .int .i64 a0_3]] rfl (by (try simp only [List.map_toArray, List.map_cons, List.map_nil]); first | done | rfl | (simp only [List.length_drop, List.length_take]; rfl)) ?_; (with_reducible refine (spec_RGEnds.calls k a0_0 a0_1 a0_2 a0_3 t185 t186 _ A3.out).mono ?_); rintro e w10 ⟨rfl, hb⟩; refine ⟨_, rfl, ?_⟩; have n0_ := Aside0.mk (blk_below (g := gb184) (o := .cells #[.int .i64 a0_0, .int .i64 a0_1, .int .i64 a0_2, .int .i64 a0_3] 44 (0, 0)) (by (with_reducible repeat (first | refine blk_drewN ?_ _ | refine blk_drew ?_ | refine blk_alloc ?_ _)); exact BK184.out) hb); have n1_ := Aside0.mk (below_step (by repeat (first | (with_reducible first | exact HB.out | apply below_alloc | apply pw_below_drewN | apply below_drew1 | refine below_set ?_ GE184.out) | exact HB.out)) hb); clear BK184; clear HB; have BK184 := n0_; have HB := n1_; clear n0_ n1_; (try clear hb); (try clear hb2); (try clear hk); (try clear hi)))
    go_ret
    exact ⟨by first | rfl | (simp [errW_none, errW_some] <;> rfl) | (simp [*, errW_none, errW_some] <;> rfl), by repeat (first | (with_reducible first | exact HB.out | apply below_alloc | apply pw_below_drewN | apply below_drew1 | refine below_set ?_ GE184.out) | exact HB.out)⟩

/-! ### spec_RRHas: function 72 -/
mutual
def spec_RRHas.l0 : Nat → List (List (S44)) → List Int → Int → Option (Bool)
  | 0, _, _, _ => none
  | k + 1, x0, x1, x5 => if x5 < (x0.length : Int) then (if 0 ≤ x5 then (spec_RRHas.l1 k x0 x1 x5 (((rd_L3 x0 x5).length : Int) == (x1.length : Int)) 0) else (none)) else (some false)
def spec_RRHas.j2 : Nat → List (List (S44)) → List Int → Int → Bool → Option (Bool)
  | 0, _, _, _, _ => none
  | k + 1, x0, x1, x5, x6 => if x6 = true then (some true) else (spec_RRHas.l0 k x0 x1 (wrap64 (x5 + 1)))
def spec_RRHas.l1 : Nat → List (List (S44)) → List Int → Int → Bool → Int → Option (Bool)
  | 0, _, _, _, _, _ => none
  | k + 1, x0, x1, x5, x6, x7 => if x7 < (x1.length : Int) then (if x6 = true then (if 0 ≤ x5 then (if x5 < (x0.length : Int) then (if 0 ≤ x7 then (if x7 < ((rd_L3 x0 x5).length : Int) then ((spec_RGIn.f k ((rd_T44 (rd_L3 x0 x5) x7).f0.f0) ((rd_T44 (rd_L3 x0 x5) x7).f0.f1) ((rd_T44 (rd_L3 x0 x5) x7).f1.f0) ((rd_T44 (rd_L3 x0 x5) x7).f1.f1) (rd x1 x7)).bind fun t191 => (spec_RRHas.l1 k x0 x1 x5 t191 (wrap64 (x7 + 1)))) else (none)) else (none)) else (none)) else (none)) else (spec_RRHas.j2 k x0 x1 x5 x6)) else (spec_RRHas.j2 k x0 x1 x5 x6)
end
def spec_RRHas.f (k : Nat) (l0 : List (List (S44))) (l1 : List Int) : Option (Bool) := spec_RRHas.l0 k l0 l1 0
theorem spec_RRHas.mono_l : ∀ k, (∀ y0 y1 y2, LeO (spec_RRHas.l0 k y0 y1 y2) (spec_RRHas.l0 (k + 1) y0 y1 y2)) ∧ (∀ y0 y1 y2 y3, LeO (spec_RRHas.j2 k y0 y1 y2 y3) (spec_RRHas.j2 (k + 1) y0 y1 y2 y3)) ∧ (∀ y0 y1 y2 y3 y4, LeO (spec_RRHas.l1 k y0 y1 y2 y3 y4) (spec_RRHas.l1 (k + 1) y0 y1 y2 y3 y4))
  | 0 => ⟨fun _ _ _ r h => by simp [spec_RRHas.l0] at h, fun _ _ _ _ r h => by simp [spec_RRHas.j2] at h, fun _ _ _ _ _ r h => by simp [spec_RRHas.l1] at h⟩
  | k + 1 => by
    obtain ⟨ih0, ih1, ih2⟩ := spec_RRHas.mono_l k
    refine ⟨?_, ?_, ?_⟩
    · intro y0 y1 y2
      unfold spec_RRHas.l0
      repeat' first
      | (with_reducible exact ih0 _ _ _)
      | (with_reducible exact ih1 _ _ _ _)
      | (with_reducible exact ih2 _ _ _ _ _)
      | (with_reducible exact spec_RGIn.mono _ _ _ _ _ _)
      | (with_reducible exact LeO.refl _)
      | (with_reducible exact LeO.none _)
      | (with_reducible refine LeO.ite ?_ ?_)
      | (with_reducible refine LeO.bind ?_ (fun _ => ?_))
      | exact ih0 _ _ _
      | exact ih1 _ _ _ _
      | exact ih2 _ _ _ _ _
      | exact spec_RGIn.mono _ _ _ _ _ _
      | exact LeO.none _
      | refine LeO.ite ?_ ?_
      | refine LeO.bind ?_ (fun _ => ?_)
    · intro y0 y1 y2 y3
      unfold spec_RRHas.j2
      repeat' first
      | (with_reducible exact ih0 _ _ _)
      | (with_reducible exact ih1 _ _ _ _)
      | (with_reducible exact ih2 _ _ _ _ _)
      | (with_reducible exact spec_RGIn.mono _ _ _ _ _ _)
      | (with_reducible exact LeO.refl _)
      | (with_reducible exact LeO.none _)
      | (with_reducible refine LeO.ite ?_ ?_)
      | (with_reducible refine LeO.bind ?_ (fun _ => ?_))
      | exact ih0 _ _ _
      | exact ih1 _ _ _ _
      | exact ih2 _ _ _ _ _
      | exact spec_RGIn.mono _ _ _ _ _ _
      | exact LeO.none _
      | refine LeO.ite ?_ ?_
      | refine LeO.bind ?_ (fun _ => ?_)
    · intro y0 y1 y2 y3 y4
      unfold spec_RRHas.l1
      repeat' first
      | (with_reducible exact ih0 _ _ _)
      | (with_reducible exact ih1 _ _ _ _)
      | (with_reducible exact ih2 _ _ _ _ _)
      | (with_reducible exact spec_RGIn.mono _ _ _ _ _ _)
      | (with_reducible exact LeO.refl _)
      | (with_reducible exact LeO.none _)
      | (with_reducible refine LeO.ite ?_ ?_)
      | (with_reducible refine LeO.bind ?_ (fun _ => ?_))
      | exact ih0 _ _ _
      | exact ih1 _ _ _ _
      | exact ih2 _ _ _ _ _
      | exact spec_RGIn.mono _ _ _ _ _ _
      | exact LeO.none _
      | refine LeO.ite ?_ ?_
      | refine LeO.bind ?_ (fun _ => ?_)
theorem spec_RRHas.mono : ∀ a0 a1 k, LeO (spec_RRHas.f k a0 a1) (spec_RRHas.f (k + 1) a0 a1) := by
  intro a0 a1 k
  obtain ⟨ih0, ih1, ih2⟩ := spec_RRHas.mono_l k
  unfold spec_RRHas.f
  repeat' first
      | (with_reducible exact ih0 _ _ _)
      | (with_reducible exact ih1 _ _ _ _)
      | (with_reducible exact ih2 _ _ _ _ _)
      | (with_reducible exact spec_RGIn.mono _ _ _ _ _ _)
      | (with_reducible exact LeO.refl _)
      | (with_reducible exact LeO.none _)
      | (with_reducible refine LeO.ite ?_ ?_)
      | (with_reducible refine LeO.bind ?_ (fun _ => ?_))
      | exact ih0 _ _ _
      | exact ih1 _ _ _ _
      | exact ih2 _ _ _ _ _
      | exact spec_RGIn.mono _ _ _ _ _ _
      | exact LeO.none _
      | refine LeO.ite ?_ ?_
      | refine LeO.bind ?_ (fun _ => ?_)
def spec_RRHas.T8 : Bool × List (List Nat × List Nat) := (true, [([], []), ([], []), ([0, 1], [0, 1]), ([2], [2]), ([], []), ([3, 4], [3, 4]), ([5], [5]), ([], []), ([], []), ([7, 8], [7, 8]), ([9], [9]), ([6, 10], [6, 10]), ([11, 11, 0, 1, 2, 3, 4, 5, 6, 7, 8, 9, 10, 11], [11])])
def spec_RRHas.B8 : List Nat := [0, 0, 3, 7, 0, 31, 63, 0, 0, 384, 896, 2047, 4095]
theorem spec_RRHas.tab8 : rtab .any (opsOf Tryd.f72 8) = spec_RRHas.T8 := by kernel_rfl
theorem spec_RRHas.bits8 : waitsOk spec_RRHas.T8.2 spec_RRHas.B8 = true := by kernel_rfl
set_option maxHeartbeats 8000000 in
set_option maxRecDepth 100000 in
theorem spec_RRHas.calls (k : Nat) (A0 : Option Addr) (c0 : Nat) (l0 : List (List (S44))) (A1 : Option Addr) (c1 : Nat) (l1 : List Int) (r : Bool) (w : World) (hr0 : Kd.C (Kd.slice 44 k44) w A0 l0.length l0) (hc0 : l0.length ≤ c0) (hr1 : Kd.C (Kd.int .i64) w A1 l1.length l1) (hc1 : l1.length ≤ c1) (h : spec_RRHas.f k l0 l1 = some r) :
    Calls Tryd.prog 72 #[.slice A0 l0.length c0, .slice A1 l1.length c1] w fun e w' => e = .returned (.bool r) ∧ Below w.heap.size w w' := by
  have hu44 := Tryd.underlying44
  have HR0 := Aside0.mk hr0
  have HC0 := Aside0.mk hc0
  clear hr0 hc0
  have HR1 := Aside0.mk hr1
  have HC1 := Aside0.mk hc1
  clear hr1 hc1
  have HB := Aside0.mk (Below.refl w.heap.size w)
  have H : (spec_RRHas.l0 k l0 l1 0) = some r := h
  clear h
  have H' := Aside0.mk H
  clear H
  go_enter Tryd.func72, Tryd.ntmps72
  go_wp2
  go_loopg [5] k (fun kq v5 w' => ∃ (x5_1 : Int), v5 = .int .i64 x5_1 ∧ Aside0 (spec_RRHas.l0 kq l0 l1 x5_1 = some r) ∧ Aside0 (kq ≤ k) ∧ Aside0 (Below w.heap.size w w'))
  case atStart => exact ⟨(0), (by first | rfl | (simp; done) | (simp [*]; done)), H', ⟨Nat.le_refl _⟩, ⟨by repeat (first | (with_reducible first | exact HB.out | apply below_alloc | apply pw_below_drewN | apply below_drew1) | exact HB.out)⟩⟩
  case round =>
    clear H'
    try clear c1
    try clear p2
    obtain ⟨x5_1, rfl, HA, HK1, HB⟩ := hrel
    cases gk with
    | zero => exact absurd HA.out (by simp [spec_RRHas.l0])
    | succ k1 =>
      have H := HA.out
      clear HA
      simp only [spec_RRHas.l0] at H
      by_cases c3 : x5_1 < (l0.length : Int)
      · rw [if_pos c3] at H
        have c3b0 : decide (x5_1 < (l0.length : Int)) = true := decide_eq_true c3
        clear c3
        by_cases c4 : 0 ≤ x5_1
        · rw [if_pos c4] at H
          have c4b0 : decide (0 ≤ x5_1) = true := decide_eq_true c4
          clear c4
          have HC5 := Aside0.mk H
          clear H
          have p187 : 0 ≤ (x5_1 : Int) := of_decide_eq_true (by first | (with_reducible assumption) | assumption)
          have q187 : x5_1 < (l0.length : Int) := of_decide_eq_true (by first | (with_reducible assumption) | assumption)
          obtain ⟨ad187, A187_0, c187_0, e187, hx187_0, hl187_0, hi187_0⟩ := at_L3 HR0.out x5_1 p187 q187
          cases e187
          replace hx187_0 := (HB.out.cell (World.block_lt_of_cell? w _ hx187_0)).trans hx187_0
          have HR187_0 := Aside0.mk hi187_0
          have HC187_0 := Aside0.mk hl187_0
          clear hi187_0 hl187_0
          replace p187 := eq_true p187
          replace q187 := eq_true q187
          go_upto_block 2 with (fail)
          go_cut [6] (fun v6 wc => ∃ (kq : Nat) (x6_4 : Bool), v6 = .bool x6_4 ∧ Aside0 (spec_RRHas.j2 kq l0 l1 x5_1 x6_4 = some r) ∧ Aside0 (kq ≤ k1) ∧ Aside0 (Below w.heap.size w wc))
          case first =>
            have H := HC5.out
            clear HC5
            have H' := Aside0.mk H
            clear H
            go_wp2
            go_loopg [6, 7] k1 (fun kq v6 v7 w' => ∃ (x6_2 : Bool) (x7_2 : Int), v6 = .bool x6_2 ∧ v7 = .int .i64 x7_2 ∧ Aside0 (spec_RRHas.l1 kq l0 l1 x5_1 x6_2 x7_2 = some r) ∧ Aside0 (kq ≤ k1) ∧ Aside0 (Below w.heap.size w w'))
            case atStart => exact ⟨((((rd_L3 l0 x5_1).length : Int) == (l1.length : Int))), (0), (by first | rfl | (simp; done) | (simp [*]; done)), (by first | rfl | (simp; done) | (simp [*]; done)), H', ⟨Nat.le_refl _⟩, ⟨by repeat (first | (with_reducible first | exact HB.out | apply below_alloc | apply pw_below_drewN | apply below_drew1) | exact HB.out)⟩⟩
            case round =>
              clear H'
              try clear c1
              try clear p1
              try clear q1
              try clear hx1
              try clear p2
              try clear c3
              try clear c3b0
              try clear c4
              try clear c4b0
              try clear hx187_0
              try clear p187
              try clear p2
              try clear q187
              obtain ⟨x6_2, x7_2, rfl, rfl, HA, HK2, HB⟩ := hrel
              cases gk with
              | zero => exact absurd HA.out (by simp [spec_RRHas.l1])
              | succ k2 =>
                have H := HA.out
                clear HA
                simp only [spec_RRHas.l1] at H
                by_cases c6 : x7_2 < (l1.length : Int)
                · rw [if_pos c6] at H
                  have c6b0 : decide (x7_2 < (l1.length : Int)) = true := decide_eq_true c6
                  clear c6
                  (first | rw [c6b0] | (simp only [i64_w, i32_w]; rw [c6b0]) | skip)
                  by_cases c7 : x6_2 = true
                  · subst c7
                    have H1 : (if 0 ≤ x5_1 then (if x5_1 < (l0.length : Int) then (if 0 ≤ x7_2 then (if x7_2 < ((rd_L3 l0 x5_1).length : Int) then ((spec_RGIn.f k2 ((rd_T44 (rd_L3 l0 x5_1) x7_2).f0.f0) ((rd_T44 (rd_L3 l0 x5_1) x7_2).f0.f1) ((rd_T44 (rd_L3 l0 x5_1) x7_2).f1.f0) ((rd_T44 (rd_L3 l0 x5_1) x7_2).f1.f1) (rd l1 x7_2)).bind fun t191 => (spec_RRHas.l1 k2 l0 l1 x5_1 t191 (wrap64 (x7_2 + 1)))) else (none)) else (none)) else (none)) else (none)) = some r := by rw [if_pos rfl] at H; exact H
                    clear H
                    have H := H1
                    clear H1
                    by_cases c8 : 0 ≤ x5_1
                    · rw [if_pos c8] at H
                      have c8b0 : decide (0 ≤ x5_1) = true := decide_eq_true c8
                      clear c8
                      by_cases c9 : x5_1 < (l0.length : Int)
                      · rw [if_pos c9] at H
                        have c9b0 : decide (x5_1 < (l0.length : Int)) = true := decide_eq_true c9
                        clear c9
                        by_cases c10 : 0 ≤ x7_2
                        · rw [if_pos c10] at H
                          have c10b0 : decide (0 ≤ x7_2) = true := decide_eq_true c10
                          clear c10
                          by_cases c11 : x7_2 < ((rd_L3 l0 x5_1).length : Int)
                          · rw [if_pos c11] at H
                            have c11b0 : decide (x7_2 < ((rd_L3 l0 x5_1).length : Int)) = true := decide_eq_true c11
                            clear c11
                            replace H := Option.bind_eq_some_iff.mp H
                            obtain ⟨t191, A120, H⟩ := H
                            replace H : (spec_RRHas.l1 k2 l0 l1 x5_1 t191 (wrap64 (x7_2 + 1))) = some r := H
                            have A12 := Aside0.mk A120
                            clear A120
                            have H' := Aside0.mk H
                            clear H
                            try go_wp2
                            have n0_ := Aside0.mk (below_drew1 HB.out)
                            clear HB
                            have HB := n0_
                            clear n0_
                            have p188 : 0 ≤ (x5_1 : Int) := of_decide_eq_true (by first | (with_reducible assumption) | assumption)
                            have q188 : x5_1 < (l0.length : Int) := of_decide_eq_true (by first | (with_reducible assumption) | assumption)
                            obtain ⟨ad188, A188_0, c188_0, e188, hx188_0, hl188_0, hi188_0⟩ := at_L3 HR0.out x5_1 p188 q188
                            have hw188_0 := hx188_0
                            obtain rfl : ad187 = ad188 := (by injection e188)
                            replace hx188_0 := (HB.out.cell (World.block_lt_of_cell? w _ hx188_0)).trans hx188_0
                            have HR188_0 := Aside0.mk hi188_0
                            have HC188_0 := Aside0.mk hl188_0
                            clear hi188_0 hl188_0
                            replace p188 := eq_true p188
                            replace q188 := eq_true q188
                            have p189 : 0 ≤ (x7_2 : Int) := of_decide_eq_true (by first | (with_reducible assumption) | assumption)
                            have q189 : x7_2 < ((rd_L3 l0 x5_1).length : Int) := of_decide_eq_true (by first | (with_reducible assumption) | assumption)
                            obtain ⟨ad189, e189, hx189_0, hx189_1, hx189_2, hx189_3⟩ := at_T44 HR188_0.out x7_2 p189 q189
                            have hw189_3 := hx189_3
                            have hw189_2 := hx189_2
                            have hw189_1 := hx189_1
                            have hw189_0 := hx189_0
                            cases e189
                            replace hx189_0 := (HB.out.cell (World.block_lt_of_cell? w _ hx189_0)).trans hx189_0
                            replace hx189_1 := (HB.out.cell (World.block_lt_of_cell? w _ hx189_1)).trans hx189_1
                            replace hx189_2 := (HB.out.cell (World.block_lt_of_cell? w _ hx189_2)).trans hx189_2
                            replace hx189_3 := (HB.out.cell (World.block_lt_of_cell? w _ hx189_3)).trans hx189_3
                            replace p189 := eq_true p189
                            replace q189 := eq_true q189
                            have p190 : 0 ≤ (x7_2 : Int) := of_decide_eq_true (by first | (with_reducible assumption) | assumption)
                            have q190 : x7_2 < (l1.length : Int) := of_decide_eq_true (by first | (with_reducible assumption) | assumption)
                            obtain ⟨ad190, e190, hx190_0⟩ := Kd.at_int HR1.out x7_2 p190 q190
                            have hw190_0 := hx190_0
                            cases e190
                            replace hx190_0 := (HB.out.cell (World.block_lt_of_cell? w _ hx190_0)).trans hx190_0
                            replace p190 := eq_true p190
                            replace q190 := eq_true q190
                            refine start_ (n := 13) (S := fun w' => w'.cell? (ad187.add (x5_1).toNat) = some (.slice (some ad189) (rd_L3 l0 x5_1).length c188_0) ∧ w'.cell? (ad189.add ((x7_2).toNat * 4)) = some (.int .i64 ((rd_T44 (rd_L3 l0 x5_1) x7_2).f0.f0)) ∧ w'.cell? ⟨(ad189.add ((x7_2).toNat * 4)).block, (ad189.add ((x7_2).toNat * 4)).off + 1, none⟩ = some (.int .i64 ((rd_T44 (rd_L3 l0 x5_1) x7_2).f0.f1)) ∧ w'.cell? ⟨(ad189.add ((x7_2).toNat * 4)).block, (ad189.add ((x7_2).toNat * 4)).off + 2, none⟩ = some (.int .i64 ((rd_T44 (rd_L3 l0 x5_1) x7_2).f1.f0)) ∧ w'.cell? ⟨(ad189.add ((x7_2).toNat * 4)).block, (ad189.add ((x7_2).toNat * 4)).off + 3, none⟩ = some (.int .i64 ((rd_T44 (rd_L3 l0 x5_1) x7_2).f1.f1)) ∧ w'.cell? (ad190.add (x7_2).toNat) = some (.int .i64 (rd l1 x7_2))) (ds := []) #[false, false, false, false, false, false, false, false, false, false, false, false, false] (by kernel_rfl) rfl rfl ⟨((HB.out.cell (World.block_lt_of_cell? w _ hw188_0)).trans hw188_0), ((HB.out.cell (World.block_lt_of_cell? w _ hw189_0)).trans hw189_0), ((HB.out.cell (World.block_lt_of_cell? w _ hw189_1)).trans hw189_1), ((HB.out.cell (World.block_lt_of_cell? w _ hw189_2)).trans hw189_2), ((HB.out.cell (World.block_lt_of_cell? w _ hw189_3)).trans hw189_3), ((HB.out.cell (World.block_lt_of_cell? w _ hw190_0)).trans hw190_0)⟩ (fun hHeld => ?_); refine with_tabW spec_RRHas.tab8 spec_RRHas.bits8 (fun HT_ HW_ => ?_)
                            generalize wr.drew = w13 at HB HR188_0 hx188_0 hx189_0 hx189_1 hx189_2 hx189_3 hx190_0 hHeld ⊢
                            refine pure_ (i := 0) (N := some 31) (v := ?_) (a' := ?_) #[true, false, false, false, false, false, false, false, false, false, false, false, false] rfl rfl (any_of HT_.out (by kernel_rfl)) (fun _ _ _ h => h) (Or.inl ⟨by rfl, ?_⟩) ?_ ?_
                            rotate_left
                            · intro w'
                              go_simp
                              with_reducible rfl
                            rotate_left
                            · simp only [Act.put, List.setIfInBounds_toArray, List.set_cons_zero, List.set_cons_succ, i64_w, i32_w]
                              rfl
                            refine pure_ (i := 1) (N := some 32) (v := ?_) (a' := ?_) #[true, true, false, false, false, false, false, false, false, false, false, false, false] rfl rfl (any_of HT_.out (by kernel_rfl)) (fun _ _ _ h => h) (Or.inl ⟨by rfl, ?_⟩) ?_ ?_
                            rotate_left
                            · intro w'
                              go_simp
                              with_reducible rfl
                            rotate_left
                            · simp only [Act.put, List.setIfInBounds_toArray, List.set_cons_zero, List.set_cons_succ, i64_w, i32_w]
                              rfl
                            refine pure_ (i := 2) (N := some 33) (v := ?_) (a' := ?_) #[true, true, true, false, false, false, false, false, false, false, false, false, false] rfl rfl (any_of HT_.out (by kernel_rfl)) (fun _ _ _ h => h) (Or.inl ⟨by rfl, ?_⟩) ?_ ?_
                            rotate_left
                            · intro w'
                              go_simp
                              with_reducible rfl
                            rotate_left
                            · simp only [Act.put, List.setIfInBounds_toArray, List.set_cons_zero, List.set_cons_succ, i64_w, i32_w]
                              rfl
                            refine pure_ (i := 4) (N := some 35) (v := ?_) (a' := ?_) #[true, true, true, false, true, false, false, false, false, false, false, false, false] rfl rfl (any_of HT_.out (by kernel_rfl)) (fun _ _ _ h => h) (Or.inl ⟨by rfl, ?_⟩) ?_ ?_
                            rotate_left
                            · intro w'
                              go_simp
                              with_reducible rfl
                            rotate_left
                            · simp only [Act.put, List.setIfInBounds_toArray, List.set_cons_zero, List.set_cons_succ, i64_w, i32_w]
                              rfl
                            refine pure_ (i := 7) (N := some 38) (v := ?_) (a' := ?_) #[true, true, true, false, true, false, false, true, false, false, false, false, false] rfl rfl (any_of HT_.out (by kernel_rfl)) (fun _ _ _ h => h) (Or.inl ⟨by rfl, ?_⟩) ?_ ?_
                            rotate_left
                            · intro w'
                              go_simp
                              with_reducible rfl
                            rotate_left
                            · simp only [Act.put, List.setIfInBounds_toArray, List.set_cons_zero, List.set_cons_succ, i64_w, i32_w]
                              rfl
                            refine pure_ (i := 8) (N := some 39) (v := ?_) (a' := ?_) #[true, true, true, false, true, false, false, true, true, false, false, false, false] rfl rfl (any_of HT_.out (by kernel_rfl)) (fun _ _ _ h => h) (Or.inl ⟨by rfl, ?_⟩) ?_ ?_
                            rotate_left
                            · intro w'
                              go_simp
                              with_reducible rfl
                            rotate_left
                            · simp only [Act.put, List.setIfInBounds_toArray, List.set_cons_zero, List.set_cons_succ, i64_w, i32_w]
                              rfl
                            refine pure_ (i := 9) (N := some 40) (v := ?_) (a' := ?_) #[true, true, true, false, true, false, false, true, true, true, false, false, false] rfl rfl (any_of HT_.out (by kernel_rfl)) (fun _ _ _ h => h) (Or.inl ⟨by rfl, ?_⟩) ?_ ?_
                            rotate_left
                            · intro w'
                              go_simp
                              with_reducible rfl
                            rotate_left
                            · simp only [Act.put, List.setIfInBounds_toArray, List.set_cons_zero, List.set_cons_succ, i64_w, i32_w]
                              rfl
                            refine take_ (i := 3) (N := some 34) (v := ?_) (a' := ?_) #[true, true, true, true, true, false, false, true, true, true, false, false, false] rfl rfl (take_ofW HT_.out HW_.out (by kernel_rfl)) (fun _ _ _ h => h) (Or.inl ⟨by rfl, ?_⟩) hHeld ?_ ?_
                            rotate_left
                            · rintro w' ⟨s0, s1, s2, s3, s4, s5⟩
                              go_simp
                              with_reducible rfl
                            rotate_left
                            · simp only [Act.put, List.setIfInBounds_toArray, List.set_cons_zero, List.set_cons_succ, i64_w, i32_w]
                              rfl
                            refine pure_ (i := 5) (N := some 36) (v := ?_) (a' := ?_) #[true, true, true, true, true, true, false, true, true, true, false, false, false] rfl rfl (any_of HT_.out (by kernel_rfl)) (fun _ _ _ h => h) (Or.inl ⟨by rfl, ?_⟩) ?_ ?_
                            rotate_left
                            · intro w'
                              go_simp
                              with_reducible rfl
                            rotate_left
                            · simp only [Act.put, List.setIfInBounds_toArray, List.set_cons_zero, List.set_cons_succ, i64_w, i32_w]
                              rfl
                            refine take_ (i := 6) (N := some 37) (v := ?_) (a' := ?_) #[true, true, true, true, true, true, true, true, true, true, false, false, false] rfl rfl (take_ofW HT_.out HW_.out (by kernel_rfl)) (fun _ _ _ h => h) (Or.inl ⟨by rfl, ?_⟩) hHeld ?_ ?_
                            rotate_left
                            · rintro w' ⟨s0, s1, s2, s3, s4, s5⟩
                              go_simp
                              with_reducible rfl
                            rotate_left
                            · simp only [Act.put, List.setIfInBounds_toArray, List.set_cons_zero, List.set_cons_succ, i64_w, i32_w]
                              rfl
                            refine take_ (i := 10) (N := some 41) (v := ?_) (a' := ?_) #[true, true, true, true, true, true, true, true, true, true, true, false, false] rfl rfl (take_ofW HT_.out HW_.out (by kernel_rfl)) (fun _ _ _ h => h) (Or.inl ⟨by rfl, ?_⟩) hHeld ?_ ?_
                            rotate_left
                            · rintro w' ⟨s0, s1, s2, s3, s4, s5⟩
                              go_simp
                              with_reducible rfl
                            rotate_left
                            · simp only [Act.put, List.setIfInBounds_toArray, List.set_cons_zero, List.set_cons_succ, i64_w, i32_w]
                              rfl
                            refine one_ (i := 11) (N := some 42) #[true, true, true, true, true, true, true, true, true, true, true, true, false] rfl rfl (one_of HT_.out (by kernel_rfl)) (by decide) (fun K hK => ?_)
                            refine goes_ Tryd.func89 (by kernel_rfl) rfl #[.agg #[.int .i64 ((rd_T44 (rd_L3 l0 x5_1) x7_2).f0.f0), .int .i64 ((rd_T44 (rd_L3 l0 x5_1) x7_2).f0.f1), .int .i64 ((rd_T44 (rd_L3 l0 x5_1) x7_2).f1.f0), .int .i64 ((rd_T44 (rd_L3 l0 x5_1) x7_2).f1.f1)], .int .i64 (rd l1 x7_2)] (by rfl) rfl rfl (by (try simp only [List.map_toArray, List.map_cons, List.map_nil]); first | done | rfl | (simp only [List.length_drop, List.length_take]; rfl)) ?_
                            with_reducible refine (spec_RGIn.calls k2 ((rd_T44 (rd_L3 l0 x5_1) x7_2).f0.f0) ((rd_T44 (rd_L3 l0 x5_1) x7_2).f0.f1) ((rd_T44 (rd_L3 l0 x5_1) x7_2).f1.f0) ((rd_T44 (rd_L3 l0 x5_1) x7_2).f1.f1) (rd l1 x7_2) t191 _ A12.out).mono ?_
                            rintro e w14 ⟨rfl, hb⟩
                            refine ⟨_, rfl, ?_⟩
                            have n0_ := Aside0.mk (below_step (by repeat (first | (with_reducible first | exact HB.out | apply below_alloc | apply pw_below_drewN | apply below_drew1) | exact HB.out)) hb)
                            clear HB
                            have HB := n0_
                            clear n0_
                            (try clear hb)
                            (try clear hb2)
                            (try clear hk)
                            (try clear hi)
                            refine hK.out _ _ ⟨((HB.out.cell (World.block_lt_of_cell? w _ hw188_0)).trans hw188_0), ((HB.out.cell (World.block_lt_of_cell? w _ hw189_0)).trans hw189_0), ((HB.out.cell (World.block_lt_of_cell? w _ hw189_1)).trans hw189_1), ((HB.out.cell (World.block_lt_of_cell? w _ hw189_2)).trans hw189_2), ((HB.out.cell (World.block_lt_of_cell? w _ hw189_3)).trans hw189_3), ((HB.out.cell (World.block_lt_of_cell? w _ hw190_0)).trans hw190_0)⟩ (fun hHeld => ?_)
                            clear hK K
                            refine norm_ (a' := ?_) ?_ ?_
                            rotate_left
                            · show Act.put _ (some 42) _ = _
                              simp only [Act.put, List.setIfInBounds_toArray, List.set_cons_zero, List.set_cons_succ, i64_w, i32_w]
                              rfl
                            refine pure_ (i := 12) (N := some 6) (v := ?_) (a' := ?_) #[true, true, true, true, true, true, true, true, true, true, true, true, true] rfl rfl (any_of HT_.out (by kernel_rfl)) (fun _ _ _ h => h) (Or.inl ⟨by rfl, ?_⟩) ?_ ?_
                            rotate_left
                            · intro w'
                              go_simp
                              with_reducible rfl
                            rotate_left
                            · simp only [Act.put, List.setIfInBounds_toArray, List.set_cons_zero, List.set_cons_succ, i64_w, i32_w]
                              rfl
                            refine done_ (done_of HT_.out (by kernel_rfl)) ?_
                            try go_wp2
                            go_roundg k2
                            case measure => have := HK1.out; have := HK2.out; omega
                            case rel => exact ⟨(t191), (wrap64 (x7_2 + 1)), (by first | rfl | (simp; done) | (simp [*]; done)), (by first | rfl | (simp; done) | (simp [*]; done)), H', ⟨by have := HK1.out; have := HK2.out; omega⟩, ⟨by repeat (first | (with_reducible first | exact HB.out | apply below_alloc | apply pw_below_drewN | apply below_drew1) | exact HB.out)⟩⟩
                          · rw [if_neg c11] at H
                            exact absurd H (by simp)
                        · rw [if_neg c10] at H
                          exact absurd H (by simp)
                      · rw [if_neg c9] at H
                        exact absurd H (by simp)
                    · rw [if_neg c8] at H
                      exact absurd H (by simp)
                  · replace c7 := Bool.eq_false_iff.mpr c7
                    subst c7
                    have H1 : (spec_RRHas.j2 k2 l0 l1 x5_1 false) = some r := by rw [if_neg (show ¬ (false = true) by decide)] at H; exact H
                    clear H
                    have H := H1
                    clear H1
                    have H' := Aside0.mk H
                    clear H
                    go_wp2
                    go_meet
                    case rel => exact ⟨_, (false), (by first | rfl | (simp; done) | (simp [*]; done)), H', ⟨by have := HK1.out; have := HK2.out; first | omega | exact Nat.le_refl _⟩, ⟨by repeat (first | (with_reducible first | exact HB.out | apply below_alloc | apply pw_below_drewN | apply below_drew1) | exact HB.out)⟩⟩
                · rw [if_neg c6] at H
                  have c6b0 : decide (x7_2 < (l1.length : Int)) = false := decide_eq_false c6
                  clear c6
                  (first | rw [c6b0] | (simp only [i64_w, i32_w]; rw [c6b0]) | skip)
                  have H' := Aside0.mk H
                  clear H
                  go_wp2
                  go_meet
                  case rel => exact ⟨_, (x6_2), (by first | rfl | (simp; done) | (simp [*]; done)), H', ⟨by have := HK1.out; have := HK2.out; first | omega | exact Nat.le_refl _⟩, ⟨by repeat (first | (with_reducible first | exact HB.out | apply below_alloc | apply pw_below_drewN | apply below_drew1) | exact HB.out)⟩⟩
          case rest =>
            clear HC5
            try clear c1
            try clear p1
            try clear q1
            try clear hx1
            try clear p2
            try clear c3
            try clear c3b0
            try clear c4
            try clear c4b0
            try clear c6
            try clear c6b0
            try clear p6
            try clear c7
            try clear c8
            try clear c8b0
            try clear c9
            try clear c9b0
            try clear c10
            try clear c10b0
            try clear c11
            try clear c11b0
            try clear hx187_0
            try clear hx188_0
            try clear hx189_0
            try clear hx189_1
            try clear hx189_2
            try clear hx189_3
            try clear hx190_0
            try clear p1
            try clear p187
            try clear p188
            try clear p189
            try clear p190
            try clear p2
            try clear q1
            try clear q187
            try clear q188
            try clear q189
            try clear q190
            obtain ⟨kq, x6_4, rfl, HA, HJ4, HB⟩ := hcut
            cases kq with
            | zero => exact absurd HA.out (by simp [spec_RRHas.j2])
            | succ kj4 =>
              have H := HA.out
              clear HA
              simp only [spec_RRHas.j2] at H
              by_cases c15 : x6_4 = true
              · subst c15
                have H1 : (some true) = some r := by rw [if_pos rfl] at H; exact H
                clear H
                have H := H1
                clear H1
                obtain rfl := Option.some.inj H
                go_wp2
                go_ret
                exact ⟨by first | rfl | (simp [errW_none, errW_some] <;> rfl) | (simp [*, errW_none, errW_some] <;> rfl), by repeat (first | (with_reducible first | exact HB.out | apply below_alloc | apply pw_below_drewN | apply below_drew1) | exact HB.out)⟩
              · replace c15 := Bool.eq_false_iff.mpr c15
                subst c15
                have H1 : (spec_RRHas.l0 kj4 l0 l1 (wrap64 (x5_1 + 1))) = some r := by rw [if_neg (show ¬ (false = true) by decide)] at H; exact H
                clear H
                have H := H1
                clear H1
                have H' := Aside0.mk H
                clear H
                go_wp2
                go_roundg kj4
                case measure => have := HK1.out; have := HJ4.out; omega
                case rel => exact ⟨(wrap64 (x5_1 + 1)), (by first | rfl | (simp; done) | (simp [*]; done)), H', ⟨by have := HK1.out; have := HJ4.out; omega⟩, ⟨by repeat (first | (with_reducible first | exact HB.out | apply below_alloc | apply pw_below_drewN | apply below_drew1) | exact HB.out)⟩⟩
        · rw [if_neg c4] at H
          exact absurd H (by simp)
      · rw [if_neg c3] at H
        have c3b0 : decide (x5_1 < (l0.length : Int)) = false := decide_eq_false c3
        clear c3
        obtain rfl := Option.some.inj H
        go_wp2
        go_ret
        exact ⟨by first | rfl | (simp [errW_none, errW_some] <;> rfl) | (simp [*, errW_none, errW_some] <;> rfl), by repeat (first | (with_reducible first | exact HB.out | apply below_alloc | apply pw_below_drewN | apply below_drew1) | exact HB.out)⟩

-- NOT PRINTED: function 35 (spec_RRCover)

/-! ### laws_rgLists: function 46 -/
def laws_rgLists.l0 : Nat → List (S44) → List (List (S44)) → Int → Option ((List (List (S44))))
  | 0, _, _, _ => none
  | k + 1, x0, x3, x4 => if x4 < (x0.length : Int) then (if 0 ≤ x4 then (if x3.length < 5864062014805 then (laws_rgLists.l0 k x0 (x3 ++ [(([(⟨(⟨(rd_T44 x0 x4).f0.f0, (rd_T44 x0 x4).f0.f1⟩ : S23), (⟨(rd_T44 x0 x4).f1.f0, (rd_T44 x0 x4).f1.f1⟩ : S23)⟩ : S44)] : List (S44)))]) (wrap64 (x4 + 1))) else (none)) else (none)) else (some x3)
def laws_rgLists.f (k : Nat) (l0 : List (S44)) : Option ((List (List (S44)))) := laws_rgLists.l0 k l0 ([] : List (List (S44))) 0
theorem laws_rgLists.mono_l : ∀ k, (∀ y0 y1 y2, LeO (laws_rgLists.l0 k y0 y1 y2) (laws_rgLists.l0 (k + 1) y0 y1 y2))
  | 0 => fun _ _ _ r h => by simp [laws_rgLists.l0] at h
  | k + 1 => by
    have ih0 := laws_rgLists.mono_l k
    · intro y0 y1 y2
      unfold laws_rgLists.l0
      repeat' first
      | (with_reducible exact ih0 _ _ _)
      | (with_reducible exact LeO.refl _)
      | (with_reducible exact LeO.none _)
      | (with_reducible refine LeO.ite ?_ ?_)
      | (with_reducible refine LeO.bind ?_ (fun _ => ?_))
      | exact ih0 _ _ _
      | exact LeO.none _
      | refine LeO.ite ?_ ?_
      | refine LeO.bind ?_ (fun _ => ?_)
theorem laws_rgLists.mono : ∀ a0 k, LeO (laws_rgLists.f k a0) (laws_rgLists.f (k + 1) a0) := by
  intro a0 k
  have ih0 := laws_rgLists.mono_l k
  unfold laws_rgLists.f
  repeat' first
      | (with_reducible exact ih0 _ _ _)
      | (with_reducible exact LeO.refl _)
      | (with_reducible exact LeO.none _)
      | (with_reducible refine LeO.ite ?_ ?_)
      | (with_reducible refine LeO.bind ?_ (fun _ => ?_))
      | exact ih0 _ _ _
      | exact LeO.none _
      | refine LeO.ite ?_ ?_
      | refine LeO.bind ?_ (fun _ => ?_)
set_option maxHeartbeats 8000000 in
set_option maxRecDepth 100000 in
theorem laws_rgLists.calls (k : Nat) (A0 : Option Addr) (c0 : Nat) (l0 : List (S44)) (r : List (List (S44))) (w : World) (hr0 : Kd.C k44 w A0 l0.length l0) (hc0 : l0.length ≤ c0) (h : laws_rgLists.f k l0 = some r) :
    Calls Tryd.prog 46 #[.slice A0 l0.length c0] w fun e w' => ∃ v0_ : Value, e = .returned (v0_) ∧ Kd.S (Kd.slice 44 k44) 40 w' w.heap.size (fun _ => True) v0_ r ∧ Below w.heap.size w w' := by
  have hu44 := Tryd.underlying44
  have HR0 := Aside0.mk hr0
  have HC0 := Aside0.mk hc0
  clear hr0 hc0
  have HB := Aside0.mk (Below.refl w.heap.size w)
  have H : (laws_rgLists.l0 k l0 ([] : List (List (S44))) 0) = some r := h
  clear h
  have H' := Aside0.mk H
  clear H
  go_enter Tryd.func46, Tryd.ntmps46
  go_wp2
  go_loopg [3, 4] k (fun kq v3 v4 w' => ∃ (x3_1 : List (List (S44))) (x4_1 : Int), v4 = .int .i64 x4_1 ∧ Aside0 (laws_rgLists.l0 kq l0 x3_1 x4_1 = some r) ∧ Aside0 (kq ≤ k) ∧ Aside0 (Kd.S (Kd.slice 44 k44) 40 w' w.heap.size (fun _ => True) v3 x3_1) ∧ Aside0 (Below w.heap.size w w'))
  case atStart => exact ⟨(([] : List (List (S44)))), (0), (by first | rfl | (simp; done) | (simp [*]; done)), H', ⟨Nat.le_refl _⟩, ⟨by first | exact Kd.S_nil _ _ _ _ _ | exact Kd.N_nil _ _ _ _ _ | exact Kd.V_nil _ _ _ _ _ | exact Kd.Q_nil _ _ _ _ _ | exact Kd.R_nil _ _ _ _ _⟩, ⟨by repeat (first | (with_reducible first | exact HB.out | apply below_alloc | apply pw_below_drewN | apply below_drew1) | exact HB.out)⟩⟩
  case round =>
    clear H'
    obtain ⟨x3_1, x4_1, rfl, HA, HK1, HO_3, HB⟩ := hrel
    cases gk with
    | zero => exact absurd HA.out (by simp [laws_rgLists.l0])
    | succ k1 =>
      have H := HA.out
      clear HA
      simp only [laws_rgLists.l0] at H
      by_cases c2 : x4_1 < (l0.length : Int)
      · rw [if_pos c2] at H
        have c2b0 : decide (x4_1 < (l0.length : Int)) = true := decide_eq_true c2
        clear c2
        by_cases c3 : 0 ≤ x4_1
        · rw [if_pos c3] at H
          have c3b0 : decide (0 ≤ x4_1) = true := decide_eq_true c3
          clear c3
          obtain ⟨y202, hy202⟩ : ∃ y_ : List (S44), y_ = (([(⟨(⟨(rd_T44 l0 x4_1).f0.f0, (rd_T44 l0 x4_1).f0.f1⟩ : S23), (⟨(rd_T44 l0 x4_1).f1.f0, (rd_T44 l0 x4_1).f1.f1⟩ : S23)⟩ : S44)] : List (S44))) := ⟨_, rfl⟩
          replace H : (if x3_1.length < 5864062014805 then (laws_rgLists.l0 k1 l0 (x3_1 ++ [y202]) (wrap64 (x4_1 + 1))) else (none)) = some r := by first | (rw [hy202]; with_reducible exact H) | (have H2_ := (Option.bind_some _ _).symm.trans H; rw [hy202]; with_reducible exact H2_) | (have H2_ := (Option.bind_some _ _).symm.trans H; with_reducible exact H2_) | with_reducible exact H | (rw [hy202]; exact H) | exact H
          have Ny202 := Aside0.mk hy202
          clear hy202
          by_cases c4 : x3_1.length < 5864062014805
          · rw [if_pos c4] at H
            have LMc4 := Aside0.mk c4
            clear c4
            obtain ⟨y205, hy205⟩ : ∃ y_ : List (List (S44)), y_ = (x3_1 ++ [y202]) := ⟨_, rfl⟩
            replace H : (laws_rgLists.l0 k1 l0 y205 (wrap64 (x4_1 + 1))) = some r := by first | (rw [hy205]; with_reducible exact H) | (have H2_ := (Option.bind_some _ _).symm.trans H; rw [hy205]; with_reducible exact H2_) | (have H2_ := (Option.bind_some _ _).symm.trans H; with_reducible exact H2_) | with_reducible exact H | (rw [hy205]; exact H) | exact H
            have Ny205 := Aside0.mk hy205
            clear hy205
            have H' := Aside0.mk H
            clear H
            have p201 : 0 ≤ (x4_1 : Int) := of_decide_eq_true (by first | (with_reducible assumption) | assumption)
            have q201 : x4_1 < (l0.length : Int) := of_decide_eq_true (by first | (with_reducible assumption) | assumption)
            obtain ⟨ad201, e201, hx201_0, hx201_1, hx201_2, hx201_3⟩ := at_T44 HR0.out x4_1 p201 q201
            cases e201
            replace hx201_0 := (HB.out.cell (World.block_lt_of_cell? w _ hx201_0)).trans hx201_0
            replace hx201_1 := (HB.out.cell (World.block_lt_of_cell? w _ hx201_1)).trans hx201_1
            replace hx201_2 := (HB.out.cell (World.block_lt_of_cell? w _ hx201_2)).trans hx201_2
            replace hx201_3 := (HB.out.cell (World.block_lt_of_cell? w _ hx201_3)).trans hx201_3
            replace p201 := eq_true p201
            replace q201 := eq_true q201
            go_wp2_with (first | ((with_reducible refine gate_dst (N := 16) rfl ?_); refine Kd.R_lit k44 _ 44 ?hg (N := 16) ?hd (xs := ([(⟨(⟨(rd_T44 l0 x4_1).f0.f0, (rd_T44 l0 x4_1).f0.f1⟩ : S23), (⟨(rd_T44 l0 x4_1).f1.f0, (rd_T44 l0 x4_1).f1.f1⟩ : S23)⟩ : S44)] : List (S44))) (inner := [.int .i64 ((rd_T44 l0 x4_1).f0.f0), .int .i64 ((rd_T44 l0 x4_1).f0.f1), .int .i64 ((rd_T44 l0 x4_1).f1.f0), .int .i64 ((rd_T44 l0 x4_1).f1.f1)]) (ok := fun _ => True) (okp := fun _ => True) ?hr ?hp (fun _ hk => hk) trivial (Below.refl _ _) (Nat.le_refl _) (by simp) ?_; (case hd => rfl); (case hg => rfl); (case hr => first | (go_simp; done) | (go_simp; rfl)); (case hp => exact (Reps.c4 (show Kd.M k44 _ _ _ (⟨(⟨(rd_T44 l0 x4_1).f0.f0, (rd_T44 l0 x4_1).f0.f1⟩ : S23), (⟨(rd_T44 l0 x4_1).f1.f0, (rd_T44 l0 x4_1).f1.f1⟩ : S23)⟩ : S44) [.int .i64 ((rd_T44 l0 x4_1).f0.f0), .int .i64 ((rd_T44 l0 x4_1).f0.f1), .int .i64 ((rd_T44 l0 x4_1).f1.f0), .int .i64 ((rd_T44 l0 x4_1).f1.f1)] from (k44_mkM _ _ _ (⟨(⟨(rd_T44 l0 x4_1).f0.f0, (rd_T44 l0 x4_1).f0.f1⟩ : S23), (⟨(rd_T44 l0 x4_1).f1.f0, (rd_T44 l0 x4_1).f1.f1⟩ : S23)⟩ : S44) )) (Reps.none _ _))); intro v203 w5 ho6 hb hg_ hnew_; clear hg_ hnew_; (first | rw [← Ny202.out] at ho6 | (simp only [Int.reduceToNat] at ho6; rw [← Ny202.out] at ho6)); have n0_ := Aside0.mk (Kd.S_elder' (by (with_reducible repeat (first | apply Kd.S_alloc | apply Kd.S_drewN | apply Kd.S_drew)); exact HO_3.out) (Kd.R_base ho6) hb); have n1_ := Aside0.mk (Kd.R_lower ho6 (below_size (by repeat (first | (with_reducible first | exact HB.out | apply below_alloc | apply pw_below_drewN | apply below_drew1) | exact HB.out)))); have n2_ := Aside0.mk (below_step (by repeat (first | (with_reducible first | exact HB.out | apply below_alloc | apply pw_below_drewN | apply below_drew1) | exact HB.out)) hb); clear HO_3; clear HB; have HO_3 := n0_; have HO204 := n1_; have HB := n2_; clear n0_ n1_ n2_; clear hb ho6; obtain ⟨Ao8, co8, eo8⟩ := Kd.R_slice HO204.out; subst eo8) | ((with_reducible refine gate_builtin (b := .append) (xs := #[.tmp 11, .tmp 17]) rfl ?_); at_builtin; refine Kd.S_append (Kd.slice 44 k44) (w0 := w) w.heap.size rfl (.tmp 11) (.tmp 17) 33 40 (.slice none 0 0) 24 rfl Tryd.underlying33 info40 rfl (by decide) (by omega) u3 x3_1 y202 [.slice Ao8 y202.length co8] (fun _ => True) (fun k_ => some k_ = (.slice Ao8 y202.length co8 : Value).ownBlock) rfl rfl ?aP (fun k_ hk_ => ((Kd.R_mono (ok' := fun k_ => ((fun _ => True)) k_ ∧ some k_ ≠ (u3 : Value).ownBlock) (Kd.R_apart' (HO204.out) (Kd.S_typed HO_3.out) (by decide)) (fun k_ hk => ⟨trivial, hk.2⟩))).1 k_ hk_.symm) ?aF ?aO ?aB ?aS ?aL ?_; (case aP => exact Kd.M_row (Kd.R_mono (Kd.R_tight rfl (Kd.R_mono (ok' := fun k_ => ((fun _ => True)) k_ ∧ some k_ ≠ (u3 : Value).ownBlock) (Kd.R_apart' (HO204.out) (Kd.S_typed HO_3.out) (by decide)) (fun k_ hk => ⟨trivial, hk.2⟩))) (fun _ h_ => h_))); (case aB => exact (by repeat (first | (with_reducible first | exact HB.out | apply below_alloc | apply pw_below_drewN | apply below_drew1) | exact HB.out))); (case aF => exact (fun _ _ => trivial)); (case aO => exact (by (with_reducible repeat (first | apply Kd.S_alloc | apply Kd.S_drewN | apply Kd.S_drew)); exact Kd.S_mono HO_3.out (fun k_ hk => ⟨trivial, fun e_ => hk.2 e_⟩))); (case aS => exact (below_size (by repeat (first | (with_reducible first | exact HB.out | apply below_alloc | apply pw_below_drewN | apply below_drew1) | exact HB.out)))); (case aL => have := LMc4.out; omega); intro v206 w7 ho hb hg hat; rw [← Ny205.out] at ho; have n0_ := Aside0.mk (hb); have n1_ := Aside0.mk (ho); clear HB; clear HO_3; clear HO204; have HB := n0_; have HO207 := n1_; clear n0_ n1_; clear ho hb hg hat))
            go_roundg k1
            case measure => have := HK1.out; omega
            case rel => exact ⟨(y205), (wrap64 (x4_1 + 1)), (by first | rfl | (simp; done) | (simp [*]; done)), H', ⟨by have := HK1.out; omega⟩, ⟨by (with_reducible repeat (first | apply Kd.S_alloc | apply Kd.S_drewN | apply Kd.S_drew)); exact HO207.out⟩, ⟨by repeat (first | (with_reducible first | exact HB.out | apply below_alloc | apply pw_below_drewN | apply below_drew1) | exact HB.out)⟩⟩
          · rw [if_neg c4] at H
            exact absurd H (by simp)
        · rw [if_neg c3] at H
          exact absurd H (by simp)
      · rw [if_neg c2] at H
        have c2b0 : decide (x4_1 < (l0.length : Int)) = false := decide_eq_false c2
        clear c2
        obtain rfl := Option.some.inj H
        go_wp2
        go_ret
        exact ⟨_, by first | rfl | (simp [errW_none, errW_some] <;> rfl) | (simp [*, errW_none, errW_some] <;> rfl), by (with_reducible repeat (first | apply Kd.S_alloc | apply Kd.S_drewN | apply Kd.S_drew)); exact HO_3.out, by repeat (first | (with_reducible first | exact HB.out | apply below_alloc | apply pw_below_drewN | apply below_drew1) | exact HB.out)⟩

-- NOT PRINTED: function 9 (laws_FnRGSimplify)

end Go.Proofs.YtlcoodjkolponaaDoor.PRR
