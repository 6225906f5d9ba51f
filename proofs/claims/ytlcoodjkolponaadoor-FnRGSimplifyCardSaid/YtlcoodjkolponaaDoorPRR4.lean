-- written by gprint.py, a program of this claim's own, by means of the kit's print
import Derived.Test.YtlcoodjkolponaaDoorPRR0
import Derived.Test.YtlcoodjkolponaaDoorPRR1
import Derived.Test.YtlcoodjkolponaaDoorLRRFullc
namespace Go.Proofs.YtlcoodjkolponaaDoor.PRR
open Go.RowKit Go.Proofs.YtlcoodjkolponaaDoorW.PrintWords Go.Proofs.YtlcoodjkolponaaDoorW.PrintLast Go.Proofs.YtlcoodjkolponaaDoorW.PrintMore
attribute [local go_sem] max2_int min2_int max_two min_two max_three min_three max_four min_four   -- for this text's walks alone
set_option linter.unusedVariables false
set_option linter.unusedSimpArgs false

/-! ### laws_rrFull: function 32 -/
mutual
def laws_rrFull.l0 : Nat → List (S44) → Int → List (S44) → Int → Option ((List (S44)))
  | 0, _, _, _, _ => none
  | k + 1, x0, x1, x5, x6 => if x6 < x1 then (if x6 < (x0.length : Int) then (if 0 ≤ x6 then (laws_rrFull.j1 k x0 x1 x5 x6 ((rd_T44 x0 x6).f0.f0) ((rd_T44 x0 x6).f0.f1) ((rd_T44 x0 x6).f1.f0) ((rd_T44 x0 x6).f1.f1)) else (none)) else (laws_rrFull.j1 k x0 x1 x5 x6 0 0 0 0)) else (some x5)
def laws_rrFull.j1 : Nat → List (S44) → Int → List (S44) → Int → Int → Int → Int → Int → Option ((List (S44)))
  | 0, _, _, _, _, _, _, _, _ => none
  | k + 1, x0, x1, x5, x6, x138000, x138001, x138002, x138003 => (laws_rgFull.f k x138000 x138001 x138002 x138003).bind fun bt139 => (if x5.length < 4398046511104 then (laws_rrFull.l0 k x0 x1 (x5 ++ [(⟨(⟨bt139.1, bt139.2.1⟩ : S23), (⟨bt139.2.2.1, bt139.2.2.2⟩ : S23)⟩ : S44)]) (wrap64 (x6 + 1))) else (none))
end
def laws_rrFull.f (k : Nat) (l0 : List (S44)) (a1 : Int) : Option ((List (S44))) := laws_rrFull.l0 k l0 a1 ([] : List (S44)) 0
theorem laws_rrFull.mono_l : ∀ k, (∀ y0 y1 y2 y3, LeO (laws_rrFull.l0 k y0 y1 y2 y3) (laws_rrFull.l0 (k + 1) y0 y1 y2 y3)) ∧ (∀ y0 y1 y2 y3 y4 y5 y6 y7, LeO (laws_rrFull.j1 k y0 y1 y2 y3 y4 y5 y6 y7) (laws_rrFull.j1 (k + 1) y0 y1 y2 y3 y4 y5 y6 y7))
  | 0 => ⟨fun _ _ _ _ r h => by simp [laws_rrFull.l0] at h, fun _ _ _ _ _ _ _ _ r h => by simp [laws_rrFull.j1] at h⟩
  | k + 1 => by
    obtain ⟨ih0, ih1⟩ := laws_rrFull.mono_l k
    refine ⟨?_, ?_⟩
    · intro y0 y1 y2 y3
      unfold laws_rrFull.l0
      repeat' first
      | (with_reducible exact ih0 _ _ _ _)
      | (with_reducible exact ih1 _ _ _ _ _ _ _ _)
      | (with_reducible exact laws_rgFull.mono _ _ _ _ _)
      | (with_reducible exact LeO.refl _)
      | (with_reducible exact LeO.none _)
      | (with_reducible refine LeO.ite ?_ ?_)
      | (with_reducible refine LeO.bind ?_ (fun _ => ?_))
      | exact ih0 _ _ _ _
      | exact ih1 _ _ _ _ _ _ _ _
      | exact laws_rgFull.mono _ _ _ _ _
      | exact LeO.none _
      | refine LeO.ite ?_ ?_
      | refine LeO.bind ?_ (fun _ => ?_)
    · intro y0 y1 y2 y3 y4 y5 y6 y7
      unfold laws_rrFull.j1
      repeat' first
      | (with_reducible exact ih0 _ _ _ _)
      | (with_reducible exact ih1 _ _ _ _ _ _ _ _)
      | (with_reducible exact laws_rgFull.mono _ _ _ _ _)
      | (with_reducible exact LeO.refl _)
      | (with_reducible exact LeO.none _)
      | (with_reducible refine LeO.ite ?_ ?_)
      | (with_reducible refine LeO.bind ?_ (fun _ => ?_))
      | exact ih0 _ _ _ _
      | exact ih1 _ _ _ _ _ _ _ _
      | exact laws_rgFull.mono _ _ _ _ _
      | exact LeO.none _
      | refine LeO.ite ?_ ?_
      | refine LeO.bind ?_ (fun _ => ?_)
theorem laws_rrFull.mono : ∀ a0 a1 k, LeO (laws_rrFull.f k a0 a1) (laws_rrFull.f (k + 1) a0 a1) := by
  intro a0 a1 k
  obtain ⟨ih0, ih1⟩ := laws_rrFull.mono_l k
  unfold laws_rrFull.f
  repeat' first
      | (with_reducible exact ih0 _ _ _ _)
      | (with_reducible exact ih1 _ _ _ _ _ _ _ _)
      | (with_reducible exact laws_rgFull.mono _ _ _ _ _)
      | (with_reducible exact LeO.refl _)
      | (with_reducible exact LeO.none _)
      | (with_reducible refine LeO.ite ?_ ?_)
      | (with_reducible refine LeO.bind ?_ (fun _ => ?_))
      | exact ih0 _ _ _ _
      | exact ih1 _ _ _ _ _ _ _ _
      | exact laws_rgFull.mono _ _ _ _ _
      | exact LeO.none _
      | refine LeO.ite ?_ ?_
      | refine LeO.bind ?_ (fun _ => ?_)
set_option maxHeartbeats 8000000 in
set_option maxRecDepth 100000 in
theorem laws_rrFull.calls (k : Nat) (A0 : Option Addr) (c0 : Nat) (l0 : List (S44)) (a1 : Int) (r : List (S44)) (w : World) (hr0 : Kd.C k44 w A0 l0.length l0) (hc0 : l0.length ≤ c0) (h : laws_rrFull.f k l0 a1 = some r) :
    Calls Tryd.prog 32 #[.slice A0 l0.length c0, .int .i64 a1] w fun e w' => ∃ v0_ : Value, e = .returned (v0_) ∧ Kd.R k44 44 w' w.heap.size (fun _ => True) v0_ r ∧ Below w.heap.size w w' := by
  have hu44 := Tryd.underlying44
  have HR0 := Aside0.mk hr0
  have HC0 := Aside0.mk hc0
  clear hr0 hc0
  have HB := Aside0.mk (Below.refl w.heap.size w)
  have H : (laws_rrFull.l0 k l0 a1 ([] : List (S44)) 0) = some r := h
  clear h
  have H' := Aside0.mk H
  clear H
  go_enter Tryd.func32, Tryd.ntmps32
  go_wp2
  go_loopg [5, 6] k (fun kq v5 v6 w' => ∃ (x5_1 : List (S44)) (x6_1 : Int), v6 = .int .i64 x6_1 ∧ Aside0 (laws_rrFull.l0 kq l0 a1 x5_1 x6_1 = some r) ∧ Aside0 (kq ≤ k) ∧ Aside0 (Kd.R k44 44 w' w.heap.size (fun _ => True) v5 x5_1) ∧ Aside0 (Below w.heap.size w w'))
  case atStart => exact ⟨(([] : List (S44))), (0), (by first | rfl | (simp; done) | (simp [*]; done)), H', ⟨Nat.le_refl _⟩, ⟨by first | exact Kd.R_nil _ _ _ _ _ | exact Kd.N_nil _ _ _ _ _ | exact Kd.V_nil _ _ _ _ _ | exact Kd.Q_nil _ _ _ _ _ | exact Kd.S_nil _ _ _ _ _⟩, ⟨by repeat (first | (with_reducible first | exact HB.out | apply below_alloc | apply pw_below_drewN | apply below_drew1) | exact HB.out)⟩⟩
  case round =>
    clear H'
    try clear p2
    obtain ⟨x5_1, x6_1, rfl, HA, HK1, HO_5, HB⟩ := hrel
    cases gk with
    | zero => exact absurd HA.out (by simp [laws_rrFull.l0])
    | succ k1 =>
      have H := HA.out
      clear HA
      simp only [laws_rrFull.l0] at H
      by_cases c3 : x6_1 < a1
      · rw [if_pos c3] at H
        have c3b0 : decide (x6_1 < a1) = true := decide_eq_true c3
        clear c3
        have HC4 := Aside0.mk H
        clear H
        go_upto_if 17 with (first | ((with_reducible refine gate_dst (N := 7) rfl ?_); refine box_event ?hg (N := 7) ?hd (cs := #[.int .i64 0, .int .i64 0, .int .i64 0, .int .i64 0]) (t := 44) ?hr ?_; (case hd => rfl); (case hg => rfl); (case hr => first | (go_simp; done) | (go_simp; rfl)); intro gb137 hg w5 hbox hb; have n0_ := Aside0.mk (Kd.R_below (Kd.R_elderB (by (with_reducible repeat (first | apply Kd.R_alloc | apply Kd.R_drewN | apply Kd.R_drew)); exact HO_5.out) gb137 (Nat.le_of_eq hg.symm)) hb); have n1_ := Aside0.mk (below_step (by repeat (first | (with_reducible first | exact HB.out | apply below_alloc | apply pw_below_drewN | apply below_drew1) | exact HB.out)) hb); have n2_ := Aside0.mk (hbox); have n3_ := Aside0.mk ((by rw [hg]; exact (below_size (by repeat (first | (with_reducible first | exact HB.out | apply below_alloc | apply pw_below_drewN | apply below_drew1) | exact HB.out))) : w.heap.size ≤ gb137)); have n4_ := Aside0.mk ((by rw [hg]; exact (below_size (by repeat (first | (with_reducible first | exact HB.out | apply below_alloc | apply pw_below_drewN | apply below_drew1) | exact HB.out))) : w.heap.size ≤ gb137)); clear HO_5; clear HB; have HO_5 := n0_; have HB := n1_; have BK137 := n2_; have GW137 := n3_; have GE137 := n4_; clear n0_ n1_ n2_ n3_ n4_; clear hb hbox hg; have hcz6_0 : w5.cell? ⟨gb137, 0, none⟩ = some (.int .i64 0) := (blk_cell BK137.out 0).trans rfl; have hcz6_1 : w5.cell? ⟨gb137, 1, none⟩ = some (.int .i64 0) := (blk_cell BK137.out 1).trans rfl; have hcz6_2 : w5.cell? ⟨gb137, 2, none⟩ = some (.int .i64 0) := (blk_cell BK137.out 2).trans rfl; have hcz6_3 : w5.cell? ⟨gb137, 3, none⟩ = some (.int .i64 0) := (blk_cell BK137.out 3).trans rfl; have hfz6_0 := blk_frozen BK137.out 0; have hfz6_1 := blk_frozen BK137.out 1; have hfz6_2 := blk_frozen BK137.out 2; have hfz6_3 := blk_frozen BK137.out 3))
        (try simp only [Act.put, List.setIfInBounds_toArray, List.set_cons_zero, List.set_cons_succ])
        go_cut [] (fun wc => ∃ (kq : Nat) (x138000_3 : Int) (x138001_3 : Int) (x138002_3 : Int) (x138003_3 : Int), Aside0 (laws_rrFull.j1 kq l0 a1 x5_1 x6_1 x138000_3 x138001_3 x138002_3 x138003_3 = some r) ∧ Aside0 (kq ≤ k1) ∧ Aside0 (Kd.R k44 44 wc w.heap.size (fun k_ => k_ ≠ gb137) u5 x5_1) ∧ Aside0 (wc.heap[gb137]? = some (.cells #[.int .i64 x138000_3, .int .i64 x138001_3, .int .i64 x138002_3, .int .i64 x138003_3] 44 (0, 0))) ∧ Aside0 (Below w.heap.size w wc))
        case first =>
          have H := HC4.out
          clear HC4
          by_cases c7 : x6_1 < (l0.length : Int)
          · rw [if_pos c7] at H
            have c7b0 : decide (x6_1 < (l0.length : Int)) = true := decide_eq_true c7
            clear c7
            (first | rw [c7b0] | (simp only [i64_w, i32_w]; rw [c7b0]) | skip)
            by_cases c8 : 0 ≤ x6_1
            · rw [if_pos c8] at H
              have c8b0 : decide (0 ≤ x6_1) = true := decide_eq_true c8
              clear c8
              have H' := Aside0.mk H
              clear H
              have p138 : 0 ≤ (x6_1 : Int) := of_decide_eq_true (by first | (with_reducible assumption) | assumption)
              have q138 : x6_1 < (l0.length : Int) := of_decide_eq_true (by first | (with_reducible assumption) | assumption)
              obtain ⟨ad138, e138, hx138_0, hx138_1, hx138_2, hx138_3⟩ := at_T44 HR0.out x6_1 p138 q138
              cases e138
              have hn138_0 : ad138.block ≠ gb137 := Nat.ne_of_lt (Nat.lt_of_lt_of_le (by have := World.block_lt_of_cell? _ _ hx138_0; first | rwa [add_block] at this | exact this) GW137.out)
              have hn138_1 : ad138.block ≠ gb137 := Nat.ne_of_lt (Nat.lt_of_lt_of_le (by have := World.block_lt_of_cell? _ _ hx138_0; first | rwa [add_block] at this | exact this) GW137.out)
              have hn138_2 : ad138.block ≠ gb137 := Nat.ne_of_lt (Nat.lt_of_lt_of_le (by have := World.block_lt_of_cell? _ _ hx138_0; first | rwa [add_block] at this | exact this) GW137.out)
              have hn138_3 : ad138.block ≠ gb137 := Nat.ne_of_lt (Nat.lt_of_lt_of_le (by have := World.block_lt_of_cell? _ _ hx138_0; first | rwa [add_block] at this | exact this) GW137.out)
              replace hx138_0 := (HB.out.cell (World.block_lt_of_cell? w _ hx138_0)).trans hx138_0
              replace hx138_1 := (HB.out.cell (World.block_lt_of_cell? w _ hx138_1)).trans hx138_1
              replace hx138_2 := (HB.out.cell (World.block_lt_of_cell? w _ hx138_2)).trans hx138_2
              replace hx138_3 := (HB.out.cell (World.block_lt_of_cell? w _ hx138_3)).trans hx138_3
              replace hx138_0 := (cell_far (p := ⟨gb137, 0, none⟩) (by first | (rw [add_block]; exact hn138_0) | (show (Addr.add _ _).block ≠ _; rw [add_block]; exact hn138_0) | exact hn138_0) (.int .i64 0)).trans hx138_0
              replace hx138_1 := (cell_far (p := ⟨gb137, 0, none⟩) (by first | (rw [add_block]; exact hn138_0) | (show (Addr.add _ _).block ≠ _; rw [add_block]; exact hn138_0) | exact hn138_0) (.int .i64 0)).trans hx138_1
              replace hx138_2 := (cell_far (p := ⟨gb137, 0, none⟩) (by first | (rw [add_block]; exact hn138_0) | (show (Addr.add _ _).block ≠ _; rw [add_block]; exact hn138_0) | exact hn138_0) (.int .i64 0)).trans hx138_2
              replace hx138_3 := (cell_far (p := ⟨gb137, 0, none⟩) (by first | (rw [add_block]; exact hn138_0) | (show (Addr.add _ _).block ≠ _; rw [add_block]; exact hn138_0) | exact hn138_0) (.int .i64 0)).trans hx138_3
              replace hx138_0 := (cell_far (p := ⟨gb137, 1, none⟩) (by first | (rw [add_block]; exact hn138_1) | (show (Addr.add _ _).block ≠ _; rw [add_block]; exact hn138_1) | exact hn138_1) (.int .i64 0)).trans hx138_0
              replace hx138_1 := (cell_far (p := ⟨gb137, 1, none⟩) (by first | (rw [add_block]; exact hn138_1) | (show (Addr.add _ _).block ≠ _; rw [add_block]; exact hn138_1) | exact hn138_1) (.int .i64 0)).trans hx138_1
              replace hx138_2 := (cell_far (p := ⟨gb137, 1, none⟩) (by first | (rw [add_block]; exact hn138_1) | (show (Addr.add _ _).block ≠ _; rw [add_block]; exact hn138_1) | exact hn138_1) (.int .i64 0)).trans hx138_2
              replace hx138_3 := (cell_far (p := ⟨gb137, 1, none⟩) (by first | (rw [add_block]; exact hn138_1) | (show (Addr.add _ _).block ≠ _; rw [add_block]; exact hn138_1) | exact hn138_1) (.int .i64 0)).trans hx138_3
              replace hx138_0 := (cell_far (p := ⟨gb137, 2, none⟩) (by first | (rw [add_block]; exact hn138_2) | (show (Addr.add _ _).block ≠ _; rw [add_block]; exact hn138_2) | exact hn138_2) (.int .i64 0)).trans hx138_0
              replace hx138_1 := (cell_far (p := ⟨gb137, 2, none⟩) (by first | (rw [add_block]; exact hn138_2) | (show (Addr.add _ _).block ≠ _; rw [add_block]; exact hn138_2) | exact hn138_2) (.int .i64 0)).trans hx138_1
              replace hx138_2 := (cell_far (p := ⟨gb137, 2, none⟩) (by first | (rw [add_block]; exact hn138_2) | (show (Addr.add _ _).block ≠ _; rw [add_block]; exact hn138_2) | exact hn138_2) (.int .i64 0)).trans hx138_2
              replace hx138_3 := (cell_far (p := ⟨gb137, 2, none⟩) (by first | (rw [add_block]; exact hn138_2) | (show (Addr.add _ _).block ≠ _; rw [add_block]; exact hn138_2) | exact hn138_2) (.int .i64 0)).trans hx138_3
              replace hx138_0 := (cell_far (p := ⟨gb137, 3, none⟩) (by first | (rw [add_block]; exact hn138_3) | (show (Addr.add _ _).block ≠ _; rw [add_block]; exact hn138_3) | exact hn138_3) (.int .i64 0)).trans hx138_0
              replace hx138_1 := (cell_far (p := ⟨gb137, 3, none⟩) (by first | (rw [add_block]; exact hn138_3) | (show (Addr.add _ _).block ≠ _; rw [add_block]; exact hn138_3) | exact hn138_3) (.int .i64 0)).trans hx138_1
              replace hx138_2 := (cell_far (p := ⟨gb137, 3, none⟩) (by first | (rw [add_block]; exact hn138_3) | (show (Addr.add _ _).block ≠ _; rw [add_block]; exact hn138_3) | exact hn138_3) (.int .i64 0)).trans hx138_2
              replace hx138_3 := (cell_far (p := ⟨gb137, 3, none⟩) (by first | (rw [add_block]; exact hn138_3) | (show (Addr.add _ _).block ≠ _; rw [add_block]; exact hn138_3) | exact hn138_3) (.int .i64 0)).trans hx138_3
              clear hn138_0
              clear hn138_1
              clear hn138_2
              clear hn138_3
              replace p138 := eq_true p138
              replace q138 := eq_true q138
              have hcz9_0 : w5.cell? ⟨gb137, 0, none⟩ = some (.int .i64 0) := (blk_cell BK137.out 0).trans rfl
              have hcz9_1 : w5.cell? ⟨gb137, 1, none⟩ = some (.int .i64 0) := (blk_cell BK137.out 1).trans rfl
              have hcz9_2 : w5.cell? ⟨gb137, 2, none⟩ = some (.int .i64 0) := (blk_cell BK137.out 2).trans rfl
              have hcz9_3 : w5.cell? ⟨gb137, 3, none⟩ = some (.int .i64 0) := (blk_cell BK137.out 3).trans rfl
              have hfz9_0 := blk_frozen BK137.out 0
              have hfz9_1 := blk_frozen BK137.out 1
              have hfz9_2 := blk_frozen BK137.out 2
              have hfz9_3 := blk_frozen BK137.out 3
              go_wp2
              go_meet
              case rel => exact ⟨_, ((rd_T44 l0 x6_1).f0.f0), ((rd_T44 l0 x6_1).f0.f1), ((rd_T44 l0 x6_1).f1.f0), ((rd_T44 l0 x6_1).f1.f1), H', ⟨by have := HK1.out; first | omega | exact Nat.le_refl _⟩, ⟨by (with_reducible repeat (first | apply Kd.R_alloc | apply Kd.R_drewN | apply Kd.R_drew)); exact Kd.R_mono (Kd.R_far (p := ⟨gb137, 3, none⟩) (Kd.R_far (p := ⟨gb137, 2, none⟩) (Kd.R_far (p := ⟨gb137, 1, none⟩) (Kd.R_far (p := ⟨gb137, 0, none⟩) (Kd.R_far (p := ⟨gb137, 3, none⟩) (Kd.R_far (p := ⟨gb137, 2, none⟩) (Kd.R_far (p := ⟨gb137, 1, none⟩) (Kd.R_far (p := ⟨gb137, 0, none⟩) (Kd.R_mono HO_5.out (fun k_ hk => (⟨hk, hk.2⟩ : _ ∧ k_ ≠ gb137))) (fun _ hk => hk.2) (.int .i64 0)) (fun _ hk => hk.2) (.int .i64 0)) (fun _ hk => hk.2) (.int .i64 0)) (fun _ hk => hk.2) (.int .i64 0)) (fun _ hk => hk.2) (.int .i64 ((rd_T44 l0 x6_1).f0.f0))) (fun _ hk => hk.2) (.int .i64 ((rd_T44 l0 x6_1).f0.f1))) (fun _ hk => hk.2) (.int .i64 ((rd_T44 l0 x6_1).f1.f0))) (fun _ hk => hk.2) (.int .i64 ((rd_T44 l0 x6_1).f1.f1))) (fun _ hk => hk.1.2)⟩, ⟨by (with_reducible repeat (first | refine blk_drewN ?_ _ | refine blk_drew ?_ | refine blk_alloc ?_ _)); refine blk_put (cs := #[.int .i64 ((rd_T44 l0 x6_1).f0.f0), .int .i64 ((rd_T44 l0 x6_1).f0.f1), .int .i64 ((rd_T44 l0 x6_1).f1.f0), .int .i64 0]) ?_ 3 _ rfl; (with_reducible repeat (first | refine blk_drewN ?_ _ | refine blk_drew ?_ | refine blk_alloc ?_ _)); refine blk_put (cs := #[.int .i64 ((rd_T44 l0 x6_1).f0.f0), .int .i64 ((rd_T44 l0 x6_1).f0.f1), .int .i64 0, .int .i64 0]) ?_ 2 _ rfl; (with_reducible repeat (first | refine blk_drewN ?_ _ | refine blk_drew ?_ | refine blk_alloc ?_ _)); refine blk_put (cs := #[.int .i64 ((rd_T44 l0 x6_1).f0.f0), .int .i64 0, .int .i64 0, .int .i64 0]) ?_ 1 _ rfl; (with_reducible repeat (first | refine blk_drewN ?_ _ | refine blk_drew ?_ | refine blk_alloc ?_ _)); refine blk_put (cs := #[.int .i64 0, .int .i64 0, .int .i64 0, .int .i64 0]) ?_ 0 _ rfl; (with_reducible repeat (first | refine blk_drewN ?_ _ | refine blk_drew ?_ | refine blk_alloc ?_ _)); refine blk_put (cs := #[.int .i64 0, .int .i64 0, .int .i64 0, .int .i64 0]) ?_ 3 _ rfl; (with_reducible repeat (first | refine blk_drewN ?_ _ | refine blk_drew ?_ | refine blk_alloc ?_ _)); refine blk_put (cs := #[.int .i64 0, .int .i64 0, .int .i64 0, .int .i64 0]) ?_ 2 _ rfl; (with_reducible repeat (first | refine blk_drewN ?_ _ | refine blk_drew ?_ | refine blk_alloc ?_ _)); refine blk_put (cs := #[.int .i64 0, .int .i64 0, .int .i64 0, .int .i64 0]) ?_ 1 _ rfl; (with_reducible repeat (first | refine blk_drewN ?_ _ | refine blk_drew ?_ | refine blk_alloc ?_ _)); refine blk_put (cs := #[.int .i64 0, .int .i64 0, .int .i64 0, .int .i64 0]) ?_ 0 _ rfl; (with_reducible repeat (first | refine blk_drewN ?_ _ | refine blk_drew ?_ | refine blk_alloc ?_ _)); exact BK137.out⟩, ⟨by repeat (first | (with_reducible first | exact HB.out | apply below_alloc | apply pw_below_drewN | apply below_drew1 | refine below_set ?_ GE137.out) | exact HB.out)⟩⟩
            · rw [if_neg c8] at H
              exact absurd H (by simp)
          · rw [if_neg c7] at H
            have c7b0 : decide (x6_1 < (l0.length : Int)) = false := decide_eq_false c7
            clear c7
            (first | rw [c7b0] | (simp only [i64_w, i32_w]; rw [c7b0]) | skip)
            have H' := Aside0.mk H
            clear H
            go_wp2
            go_meet
            case rel => exact ⟨_, (0), (0), (0), (0), H', ⟨by have := HK1.out; first | omega | exact Nat.le_refl _⟩, ⟨by (with_reducible repeat (first | apply Kd.R_alloc | apply Kd.R_drewN | apply Kd.R_drew)); exact Kd.R_mono (Kd.R_far (p := ⟨gb137, 3, none⟩) (Kd.R_far (p := ⟨gb137, 2, none⟩) (Kd.R_far (p := ⟨gb137, 1, none⟩) (Kd.R_far (p := ⟨gb137, 0, none⟩) (Kd.R_mono HO_5.out (fun k_ hk => (⟨hk, hk.2⟩ : _ ∧ k_ ≠ gb137))) (fun _ hk => hk.2) (.int .i64 0)) (fun _ hk => hk.2) (.int .i64 0)) (fun _ hk => hk.2) (.int .i64 0)) (fun _ hk => hk.2) (.int .i64 0)) (fun _ hk => hk.1.2)⟩, ⟨by (with_reducible repeat (first | refine blk_drewN ?_ _ | refine blk_drew ?_ | refine blk_alloc ?_ _)); refine blk_put (cs := #[.int .i64 0, .int .i64 0, .int .i64 0, .int .i64 0]) ?_ 3 _ rfl; (with_reducible repeat (first | refine blk_drewN ?_ _ | refine blk_drew ?_ | refine blk_alloc ?_ _)); refine blk_put (cs := #[.int .i64 0, .int .i64 0, .int .i64 0, .int .i64 0]) ?_ 2 _ rfl; (with_reducible repeat (first | refine blk_drewN ?_ _ | refine blk_drew ?_ | refine blk_alloc ?_ _)); refine blk_put (cs := #[.int .i64 0, .int .i64 0, .int .i64 0, .int .i64 0]) ?_ 1 _ rfl; (with_reducible repeat (first | refine blk_drewN ?_ _ | refine blk_drew ?_ | refine blk_alloc ?_ _)); refine blk_put (cs := #[.int .i64 0, .int .i64 0, .int .i64 0, .int .i64 0]) ?_ 0 _ rfl; (with_reducible repeat (first | refine blk_drewN ?_ _ | refine blk_drew ?_ | refine blk_alloc ?_ _)); exact BK137.out⟩, ⟨by repeat (first | (with_reducible first | exact HB.out | apply below_alloc | apply pw_below_drewN | apply below_drew1 | refine below_set ?_ GE137.out) | exact HB.out)⟩⟩
        case rest =>
          clear HC4
          try clear p1
          try clear q1
          try clear hx1
          try clear p2
          try clear c3
          try clear c3b0
          try clear c7
          try clear c7b0
          try clear c8
          try clear c8b0
          try clear hcz6_0
          try clear hcz6_1
          try clear hcz6_2
          try clear hcz6_3
          try clear hcz9_0
          try clear hcz9_1
          try clear hcz9_2
          try clear hcz9_3
          try clear hfz6_0
          try clear hfz6_1
          try clear hfz6_2
          try clear hfz6_3
          try clear hfz9_0
          try clear hfz9_1
          try clear hfz9_2
          try clear hfz9_3
          try clear hx138_0
          try clear hx138_1
          try clear hx138_2
          try clear hx138_3
          try clear p138
          try clear p2
          try clear q138
          obtain ⟨kq, x138000_3, x138001_3, x138002_3, x138003_3, HA, HJ3, HO_5, BK137, HB⟩ := hcut
          cases kq with
          | zero => exact absurd HA.out (by simp [laws_rrFull.j1])
          | succ kj3 =>
            have H := HA.out
            clear HA
            simp only [laws_rrFull.j1] at H
            replace H := Option.bind_eq_some_iff.mp H
            obtain ⟨⟨t139, t140, t141, t142⟩, A100, H⟩ := H
            replace H : (if x5_1.length < 4398046511104 then (laws_rrFull.l0 kj3 l0 a1 (x5_1 ++ [(⟨(⟨t139, t140⟩ : S23), (⟨t141, t142⟩ : S23)⟩ : S44)]) (wrap64 (x6_1 + 1))) else (none)) = some r := H
            have A10 := Aside0.mk A100
            clear A100
            by_cases c11 : x5_1.length < 4398046511104
            · rw [if_pos c11] at H
              have LMc11 := Aside0.mk c11
              clear c11
              obtain ⟨y143, hy143⟩ : ∃ y_ : List (S44), y_ = (x5_1 ++ [(⟨(⟨t139, t140⟩ : S23), (⟨t141, t142⟩ : S23)⟩ : S44)]) := ⟨_, rfl⟩
              replace H : (laws_rrFull.l0 kj3 l0 a1 y143 (wrap64 (x6_1 + 1))) = some r := by first | (rw [hy143]; with_reducible exact H) | (have H2_ := (Option.bind_some _ _).symm.trans H; rw [hy143]; with_reducible exact H2_) | (have H2_ := (Option.bind_some _ _).symm.trans H; with_reducible exact H2_) | with_reducible exact H | (rw [hy143]; exact H) | exact H
              have Ny143 := Aside0.mk hy143
              clear hy143
              have H' := Aside0.mk H
              clear H
              have hcz12_0 : wc.cell? ⟨gb137, 0, none⟩ = some (.int .i64 x138000_3) := (blk_cell BK137.out 0).trans rfl
              have hcz12_1 : wc.cell? ⟨gb137, 1, none⟩ = some (.int .i64 x138001_3) := (blk_cell BK137.out 1).trans rfl
              have hcz12_2 : wc.cell? ⟨gb137, 2, none⟩ = some (.int .i64 x138002_3) := (blk_cell BK137.out 2).trans rfl
              have hcz12_3 : wc.cell? ⟨gb137, 3, none⟩ = some (.int .i64 x138003_3) := (blk_cell BK137.out 3).trans rfl
              have hfz12_0 := blk_frozen BK137.out 0
              have hfz12_1 := blk_frozen BK137.out 1
              have hfz12_2 := blk_frozen BK137.out 2
              have hfz12_3 := blk_frozen BK137.out 3
              go_wp2_with (first | ((with_reducible refine gate_callee (f := 21) rfl ?_); refine goesL_ (some 24) rfl rfl Tryd.func21 (by kernel_rfl) rfl #[.agg #[.int .i64 x138000_3, .int .i64 x138001_3, .int .i64 x138002_3, .int .i64 x138003_3]] rfl (by (try simp only [List.map_toArray, List.map_cons, List.map_nil]); first | done | rfl | (simp only [List.length_drop, List.length_take]; rfl)) ?_; (with_reducible refine (laws_rgFull.calls kj3 x138000_3 x138001_3 x138002_3 x138003_3 t139 t140 t141 t142 _ A10.out).mono ?_); rintro e w13 ⟨rfl, hb⟩; refine ⟨_, rfl, ?_⟩; have n0_ := Aside0.mk (Kd.R_below (by (with_reducible repeat (first | apply Kd.R_alloc | apply Kd.R_drewN | apply Kd.R_drew)); exact HO_5.out) hb); have n1_ := Aside0.mk (blk_below (g := gb137) (o := .cells #[.int .i64 x138000_3, .int .i64 x138001_3, .int .i64 x138002_3, .int .i64 x138003_3] 44 (0, 0)) (by (with_reducible repeat (first | refine blk_drewN ?_ _ | refine blk_drew ?_ | refine blk_alloc ?_ _)); exact BK137.out) hb); have n2_ := Aside0.mk (below_step (by repeat (first | (with_reducible first | exact HB.out | apply below_alloc | apply pw_below_drewN | apply below_drew1 | refine below_set ?_ GE137.out) | exact HB.out)) hb); clear HO_5; clear BK137; clear HB; have HO_5 := n0_; have BK137 := n1_; have HB := n2_; clear n0_ n1_ n2_; (try clear hb); (try clear hb2); (try clear hk); (try clear hi)) | ((with_reducible refine gate_builtin (b := .append) (xs := #[.tmp 22, .tmp 25]) rfl ?_); at_builtin; refine Kd.R_append k44 (w0 := w) w.heap.size rfl (.tmp 22) (.tmp 25) 40 44 (.agg #[(.int .i64 0), (.int .i64 0), (.int .i64 0), (.int .i64 0)]) 32 rfl Tryd.underlying40 info44 rfl (by decide) (by omega) u5 x5_1 (⟨(⟨t139, t140⟩ : S23), (⟨t141, t142⟩ : S23)⟩ : S44) [.int .i64 t139, .int .i64 t140, .int .i64 t141, .int .i64 t142] (fun k_ => k_ ≠ gb137) (fun _ => False) rfl rfl ?aP (fun _ hk => hk.elim) ?aF ?aO ?aB ?aS ?aL ?_; (case aP => exact k44_mkM _ _ _ (⟨(⟨t139, t140⟩ : S23), (⟨t141, t142⟩ : S23)⟩ : S44)); (case aB => exact (by repeat (first | (with_reducible first | exact HB.out | apply below_alloc | apply pw_below_drewN | apply below_drew1 | refine below_set ?_ GE137.out) | exact HB.out))); (case aF => exact (fun k_ hk => Kd.freshB (g := gb137) (o := .cells #[.int .i64 x138000_3, .int .i64 x138001_3, .int .i64 x138002_3, .int .i64 x138003_3] 44 (0, 0)) (by (with_reducible repeat (first | refine blk_drewN ?_ _ | refine blk_drew ?_ | refine blk_alloc ?_ _)); exact BK137.out) k_ hk)); (case aO => exact (by (with_reducible repeat (first | apply Kd.R_alloc | apply Kd.R_drewN | apply Kd.R_drew)); exact HO_5.out)); (case aS => exact (below_size (by repeat (first | (with_reducible first | exact HB.out | apply below_alloc | apply pw_below_drewN | apply below_drew1 | refine below_set ?_ GE137.out) | exact HB.out)))); (case aL => have := LMc11.out; omega); intro v144 w14 ho hb hg hat; rw [← Ny143.out] at ho; have n0_ := Aside0.mk (blk_grown (g := gb137) (o := .cells #[.int .i64 x138000_3, .int .i64 x138001_3, .int .i64 x138002_3, .int .i64 x138003_3] 44 (0, 0)) (by (with_reducible repeat (first | refine blk_drewN ?_ _ | refine blk_drew ?_ | refine blk_alloc ?_ _)); exact BK137.out) hg (Kd.R_away HO_5.out (fun _ hk => hk))); have n1_ := Aside0.mk (hb); have n2_ := Aside0.mk (ho); clear BK137; clear HB; clear HO_5; have BK137 := n0_; have HB := n1_; have HO145 := n2_; clear n0_ n1_ n2_; clear ho hb hg hat))
              go_roundg kj3
              case measure => have := HK1.out; have := HJ3.out; omega
              case rel => exact ⟨(y143), (wrap64 (x6_1 + 1)), (by first | rfl | (simp; done) | (simp [*]; done)), H', ⟨by have := HK1.out; have := HJ3.out; omega⟩, ⟨by (with_reducible repeat (first | apply Kd.R_alloc | apply Kd.R_drewN | apply Kd.R_drew)); exact Kd.R_mono HO145.out (fun _ hk => trivial)⟩, ⟨by repeat (first | (with_reducible first | exact HB.out | apply below_alloc | apply pw_below_drewN | apply below_drew1 | refine below_set ?_ GE137.out) | exact HB.out)⟩⟩
            · rw [if_neg c11] at H
              exact absurd H (by simp)
      · rw [if_neg c3] at H
        have c3b0 : decide (x6_1 < a1) = false := decide_eq_false c3
        clear c3
        obtain rfl := Option.some.inj H
        go_wp2
        go_ret
        exact ⟨_, by first | rfl | (simp [errW_none, errW_some] <;> rfl) | (simp [*, errW_none, errW_some] <;> rfl), by (with_reducible repeat (first | apply Kd.R_alloc | apply Kd.R_drewN | apply Kd.R_drew)); exact HO_5.out, by repeat (first | (with_reducible first | exact HB.out | apply below_alloc | apply pw_below_drewN | apply below_drew1) | exact HB.out)⟩

/-! ### spec_RGMeet: function 67 -/
def spec_RGMeet.j0 : Nat → Int → Int → Int → Int → Int → Int → Int → Int → Option (Int × Int × Int × Int)
  | 0, _, _, _, _, _, _, _, _ => none
  | k + 1, x147000, x147001, x147002, x147003, x148000, x148001, x148002, x148003 => (spec_RGPlace.f k x148002 x148003).bind fun t151 => ((spec_RGPlace.f k x147002 x147003).bind fun t152 => (if t151 < t152 then (some (x147000, x147001, x148002, x148003)) else (some (x147000, x147001, x147002, x147003))))
def spec_RGMeet.f (k : Nat) (a0_0 : Int) (a0_1 : Int) (a0_2 : Int) (a0_3 : Int) (a1_0 : Int) (a1_1 : Int) (a1_2 : Int) (a1_3 : Int) : Option (Int × Int × Int × Int) := (spec_RGPlace.f k a1_0 a1_1).bind fun t149 => ((spec_RGPlace.f k a0_0 a0_1).bind fun t150 => (if t149 > t150 then (spec_RGMeet.j0 k a1_0 a1_1 a0_2 a0_3 a1_0 a1_1 a1_2 a1_3) else (spec_RGMeet.j0 k a0_0 a0_1 a0_2 a0_3 a1_0 a1_1 a1_2 a1_3)))
theorem spec_RGMeet.mono_l : ∀ k, (∀ y0 y1 y2 y3 y4 y5 y6 y7, LeO (spec_RGMeet.j0 k y0 y1 y2 y3 y4 y5 y6 y7) (spec_RGMeet.j0 (k + 1) y0 y1 y2 y3 y4 y5 y6 y7))
  | 0 => fun _ _ _ _ _ _ _ _ r h => by simp [spec_RGMeet.j0] at h
  | k + 1 => by
    have ih0 := spec_RGMeet.mono_l k
    · intro y0 y1 y2 y3 y4 y5 y6 y7
      unfold spec_RGMeet.j0
      repeat' first
      | (with_reducible exact ih0 _ _ _ _ _ _ _ _)
      | (with_reducible exact spec_RGPlace.mono _ _ _)
      | (with_reducible exact LeO.refl _)
      | (with_reducible exact LeO.none _)
      | (with_reducible refine LeO.ite ?_ ?_)
      | (with_reducible refine LeO.bind ?_ (fun _ => ?_))
      | exact ih0 _ _ _ _ _ _ _ _
      | exact spec_RGPlace.mono _ _ _
      | exact LeO.none _
      | refine LeO.ite ?_ ?_
      | refine LeO.bind ?_ (fun _ => ?_)
theorem spec_RGMeet.mono : ∀ a0 a1 a2 a3 a4 a5 a6 a7 k, LeO (spec_RGMeet.f k a0 a1 a2 a3 a4 a5 a6 a7) (spec_RGMeet.f (k + 1) a0 a1 a2 a3 a4 a5 a6 a7) := by
  intro a0 a1 a2 a3 a4 a5 a6 a7 k
  have ih0 := spec_RGMeet.mono_l k
  unfold spec_RGMeet.f
  repeat' first
      | (with_reducible exact ih0 _ _ _ _ _ _ _ _)
      | (with_reducible exact spec_RGPlace.mono _ _ _)
      | (with_reducible exact LeO.refl _)
      | (with_reducible exact LeO.none _)
      | (with_reducible refine LeO.ite ?_ ?_)
      | (with_reducible refine LeO.bind ?_ (fun _ => ?_))
      | exact ih0 _ _ _ _ _ _ _ _
      | exact spec_RGPlace.mono _ _ _
      | exact LeO.none _
      | refine LeO.ite ?_ ?_
      | refine LeO.bind ?_ (fun _ => ?_)
set_option maxHeartbeats 8000000 in
set_option maxRecDepth 100000 in
theorem spec_RGMeet.calls (k : Nat) (a0_0 : Int) (a0_1 : Int) (a0_2 : Int) (a0_3 : Int) (a1_0 : Int) (a1_1 : Int) (a1_2 : Int) (a1_3 : Int) (r1 : Int) (r2 : Int) (r3 : Int) (r4 : Int) (w : World) (h : spec_RGMeet.f k a0_0 a0_1 a0_2 a0_3 a1_0 a1_1 a1_2 a1_3 = some (r1, r2, r3, r4)) :
    Calls Tryd.prog 67 #[.agg #[.int .i64 a0_0, .int .i64 a0_1, .int .i64 a0_2, .int .i64 a0_3], .agg #[.int .i64 a1_0, .int .i64 a1_1, .int .i64 a1_2, .int .i64 a1_3]] w fun e w' => e = .returned (.agg #[.int .i64 r1, .int .i64 r2, .int .i64 r3, .int .i64 r4]) ∧ Below w.heap.size w w' := by
  have hu44 := Tryd.underlying44
  have hu23 := Tryd.underlying23
  have HB := Aside0.mk (Below.refl w.heap.size w)
  have H : ((spec_RGPlace.f k a1_0 a1_1).bind fun t149 => ((spec_RGPlace.f k a0_0 a0_1).bind fun t150 => (if t149 > t150 then (spec_RGMeet.j0 k a1_0 a1_1 a0_2 a0_3 a1_0 a1_1 a1_2 a1_3) else (spec_RGMeet.j0 k a0_0 a0_1 a0_2 a0_3 a1_0 a1_1 a1_2 a1_3)))) = some (r1, r2, r3, r4) := h
  clear h
  replace H := Option.bind_eq_some_iff.mp H
  obtain ⟨t149, A30, H⟩ := H
  replace H : ((spec_RGPlace.f k a0_0 a0_1).bind fun t150 => (if t149 > t150 then (spec_RGMeet.j0 k a1_0 a1_1 a0_2 a0_3 a1_0 a1_1 a1_2 a1_3) else (spec_RGMeet.j0 k a0_0 a0_1 a0_2 a0_3 a1_0 a1_1 a1_2 a1_3))) = some (r1, r2, r3, r4) := H
  have A3 := Aside0.mk A30
  clear A30
  replace H := Option.bind_eq_some_iff.mp H
  obtain ⟨t150, A40, H⟩ := H
  replace H : (if t149 > t150 then (spec_RGMeet.j0 k a1_0 a1_1 a0_2 a0_3 a1_0 a1_1 a1_2 a1_3) else (spec_RGMeet.j0 k a0_0 a0_1 a0_2 a0_3 a1_0 a1_1 a1_2 a1_3)) = some (r1, r2, r3, r4) := H
  have A4 := Aside0.mk A40
  clear A40
  have HC5 := Aside0.mk H
  clear H
  go_enter Tryd.func67, Tryd.ntmps67
  try go_wp2_with (first | ((with_reducible refine gate_dst (N := 2) rfl ?_); refine box_event ?hg (N := 2) ?hd (cs := #[.int .i64 a0_0, .int .i64 a0_1, .int .i64 a0_2, .int .i64 a0_3]) (t := 44) ?hr ?_; (case hd => rfl); (case hg => rfl); (case hr => first | (go_simp; done) | (go_simp; rfl)); intro gb146 hg w6 hbox hb; have n0_ := Aside0.mk (below_step (by repeat (first | (with_reducible first | exact HB.out | apply below_alloc | apply pw_below_drewN | apply below_drew1) | exact HB.out)) hb); have n1_ := Aside0.mk (hbox); have n2_ := Aside0.mk ((by rw [hg]; exact (below_size (by repeat (first | (with_reducible first | exact HB.out | apply below_alloc | apply pw_below_drewN | apply below_drew1) | exact HB.out))) : w.heap.size ≤ gb146)); have n3_ := Aside0.mk ((by rw [hg]; exact (below_size (by repeat (first | (with_reducible first | exact HB.out | apply below_alloc | apply pw_below_drewN | apply below_drew1) | exact HB.out))) : w.heap.size ≤ gb146)); clear HB; have HB := n0_; have BK146 := n1_; have GW146 := n2_; have GE146 := n3_; clear n0_ n1_ n2_ n3_; clear hb hbox hg) | ((with_reducible refine gate_dst (N := 3) rfl ?_); refine box_event ?hg (N := 3) ?hd (cs := #[.int .i64 a1_0, .int .i64 a1_1, .int .i64 a1_2, .int .i64 a1_3]) (t := 44) ?hr ?_; (case hd => rfl); (case hg => rfl); (case hr => first | (go_simp; done) | (go_simp; rfl)); intro gb147 hg w7 hbox hb; have n0_ := Aside0.mk (blk_below (g := gb146) (o := .cells #[.int .i64 a0_0, .int .i64 a0_1, .int .i64 a0_2, .int .i64 a0_3] 44 (0, 0)) (by (with_reducible repeat (first | refine blk_drewN ?_ _ | refine blk_drew ?_ | refine blk_alloc ?_ _)); exact BK146.out) hb); have n1_ := Aside0.mk (below_step (by repeat (first | (with_reducible first | exact HB.out | apply below_alloc | apply pw_below_drewN | apply below_drew1 | refine below_set ?_ GE146.out) | exact HB.out)) hb); have n2_ := Aside0.mk (hbox); have n3_ := Aside0.mk ((by rw [hg]; exact (below_size (by repeat (first | (with_reducible first | exact HB.out | apply below_alloc | apply pw_below_drewN | apply below_drew1 | refine below_set ?_ GE146.out) | exact HB.out))) : w.heap.size ≤ gb147)); have n4_ := Aside0.mk ((by rw [hg]; exact (below_size (by repeat (first | (with_reducible first | exact HB.out | apply below_alloc | apply pw_below_drewN | apply below_drew1 | refine below_set ?_ GE146.out) | exact HB.out))) : w.heap.size ≤ gb147)); have n5_ := Aside0.mk ((by rw [hg]; exact Nat.ne_of_lt (blk_lt (g := gb146) (o := .cells #[.int .i64 a0_0, .int .i64 a0_1, .int .i64 a0_2, .int .i64 a0_3] 44 (0, 0)) (by (with_reducible repeat (first | refine blk_drewN ?_ _ | refine blk_drew ?_ | refine blk_alloc ?_ _)); exact BK146.out)) : gb146 ≠ gb147)); have n6_ := Aside0.mk ((by rw [hg]; exact Nat.ne_of_gt (blk_lt (g := gb146) (o := .cells #[.int .i64 a0_0, .int .i64 a0_1, .int .i64 a0_2, .int .i64 a0_3] 44 (0, 0)) (by (with_reducible repeat (first | refine blk_drewN ?_ _ | refine blk_drew ?_ | refine blk_alloc ?_ _)); exact BK146.out)) : gb147 ≠ gb146)); clear BK146; clear HB; have BK146 := n0_; have HB := n1_; have BK147 := n2_; have GW147 := n3_; have GE147 := n4_; have NB146_147 := n5_; have NB147_146 := n6_; clear n0_ n1_ n2_ n3_ n4_ n5_ n6_; clear hb hbox hg) | ((with_reducible refine gate_dst (N := 4) rfl ?_); refine box_event ?hg (N := 4) ?hd (cs := #[.int .i64 0, .int .i64 0, .int .i64 0, .int .i64 0]) (t := 44) ?hr ?_; (case hd => rfl); (case hg => rfl); (case hr => first | (go_simp; done) | (go_simp; rfl)); intro gb148 hg w8 hbox hb; have n0_ := Aside0.mk (blk_below (g := gb146) (o := .cells #[.int .i64 a0_0, .int .i64 a0_1, .int .i64 a0_2, .int .i64 a0_3] 44 (0, 0)) (by (with_reducible repeat (first | refine blk_drewN ?_ _ | refine blk_drew ?_ | refine blk_alloc ?_ _)); exact BK146.out) hb); have n1_ := Aside0.mk (blk_below (g := gb147) (o := .cells #[.int .i64 a1_0, .int .i64 a1_1, .int .i64 a1_2, .int .i64 a1_3] 44 (0, 0)) (by (with_reducible repeat (first | refine blk_drewN ?_ _ | refine blk_drew ?_ | refine blk_alloc ?_ _)); exact BK147.out) hb); have n2_ := Aside0.mk (below_step (by repeat (first | (with_reducible first | exact HB.out | apply below_alloc | apply pw_below_drewN | apply below_drew1 | refine below_set ?_ GE146.out | refine below_set ?_ GE147.out) | exact HB.out)) hb); have n3_ := Aside0.mk (hbox); have n4_ := Aside0.mk ((by rw [hg]; exact (below_size (by repeat (first | (with_reducible first | exact HB.out | apply below_alloc | apply pw_below_drewN | apply below_drew1 | refine below_set ?_ GE146.out | refine below_set ?_ GE147.out) | exact HB.out))) : w.heap.size ≤ gb148)); have n5_ := Aside0.mk ((by rw [hg]; exact (below_size (by repeat (first | (with_reducible first | exact HB.out | apply below_alloc | apply pw_below_drewN | apply below_drew1 | refine below_set ?_ GE146.out | refine below_set ?_ GE147.out) | exact HB.out))) : w.heap.size ≤ gb148)); have n6_ := Aside0.mk ((by rw [hg]; exact Nat.ne_of_lt (blk_lt (g := gb146) (o := .cells #[.int .i64 a0_0, .int .i64 a0_1, .int .i64 a0_2, .int .i64 a0_3] 44 (0, 0)) (by (with_reducible repeat (first | refine blk_drewN ?_ _ | refine blk_drew ?_ | refine blk_alloc ?_ _)); exact BK146.out)) : gb146 ≠ gb148)); have n7_ := Aside0.mk ((by rw [hg]; exact Nat.ne_of_gt (blk_lt (g := gb146) (o := .cells #[.int .i64 a0_0, .int .i64 a0_1, .int .i64 a0_2, .int .i64 a0_3] 44 (0, 0)) (by (with_reducible repeat (first | refine blk_drewN ?_ _ | refine blk_drew ?_ | refine blk_alloc ?_ _)); exact BK146.out)) : gb148 ≠ gb146)); have n8_ := Aside0.mk ((by rw [hg]; exact Nat.ne_of_lt (blk_lt (g := gb147) (o := .cells #[.int .i64 a1_0, .int .i64 a1_1, .int .i64 a1_2, .int .i64 a1_3] 44 (0, 0)) (by (with_reducible repeat (first | refine blk_drewN ?_ _ | refine blk_drew ?_ | refine blk_alloc ?_ _)); exact BK147.out)) : gb147 ≠ gb148)); have n9_ := Aside0.mk ((by rw [hg]; exact Nat.ne_of_gt (blk_lt (g := gb147) (o := .cells #[.int .i64 a1_0, .int .i64 a1_1, .int .i64 a1_2, .int .i64 a1_3] 44 (0, 0)) (by (with_reducible repeat (first | refine blk_drewN ?_ _ | refine blk_drew ?_ | refine blk_alloc ?_ _)); exact BK147.out)) : gb148 ≠ gb147)); clear BK146; clear BK147; clear HB; have BK146 := n0_; have BK147 := n1_; have HB := n2_; have BK148 := n3_; have GW148 := n4_; have GE148 := n5_; have NB146_148 := n6_; have NB148_146 := n7_; have NB147_148 := n8_; have NB148_147 := n9_; clear n0_ n1_ n2_ n3_ n4_ n5_ n6_ n7_ n8_ n9_; clear hb hbox hg))
  have n0_ := Aside0.mk (blk_drew BK146.out)
  have n1_ := Aside0.mk (blk_drew BK147.out)
  have n2_ := Aside0.mk (blk_drew BK148.out)
  have n3_ := Aside0.mk (below_drew1 HB.out)
  clear BK146
  clear BK147
  clear BK148
  clear HB
  have BK146 := n0_
  have BK147 := n1_
  have BK148 := n2_
  have HB := n3_
  clear n0_ n1_ n2_ n3_
  refine start_ (n := 7) (S := fun w' => w'.cell? ⟨gb147, 0, none⟩ = some (.int .i64 a1_0) ∧ w'.cell? ⟨gb147, 1, none⟩ = some (.int .i64 a1_1) ∧ w'.cell? ⟨gb147, 2, none⟩ = some (.int .i64 a1_2) ∧ w'.cell? ⟨gb147, 3, none⟩ = some (.int .i64 a1_3) ∧ w'.cell? ⟨gb146, 0, none⟩ = some (.int .i64 a0_0) ∧ w'.cell? ⟨gb146, 1, none⟩ = some (.int .i64 a0_1) ∧ w'.cell? ⟨gb146, 2, none⟩ = some (.int .i64 a0_2) ∧ w'.cell? ⟨gb146, 3, none⟩ = some (.int .i64 a0_3)) (ds := []) #[false, false, false, false, false, false, false] (by kernel_rfl) rfl rfl ⟨(blk_cell BK147.out 0).trans rfl, (blk_cell BK147.out 1).trans rfl, (blk_cell BK147.out 2).trans rfl, (blk_cell BK147.out 3).trans rfl, (blk_cell BK146.out 0).trans rfl, (blk_cell BK146.out 1).trans rfl, (blk_cell BK146.out 2).trans rfl, (blk_cell BK146.out 3).trans rfl⟩ (fun hHeld => ?_)
  generalize w8.drew = w9 at BK146 BK147 BK148 HB hHeld ⊢
  refine pure_ (i := 0) (N := some 5) (v := ?_) (a' := ?_) #[true, false, false, false, false, false, false] rfl rfl (by kernel_rfl) (fun _ _ _ h => h) (Or.inl ⟨by rfl, ?_⟩) ?_ ?_
  rotate_left
  · intro w'
    go_simp
    with_reducible rfl
  rotate_left
  · simp only [Act.put, List.setIfInBounds_toArray, List.set_cons_zero, List.set_cons_succ, i64_w, i32_w]
    rfl
  refine pure_ (i := 3) (N := some 8) (v := ?_) (a' := ?_) #[true, false, false, true, false, false, false] rfl rfl (by kernel_rfl) (fun _ _ _ h => h) (Or.inl ⟨by rfl, ?_⟩) ?_ ?_
  rotate_left
  · intro w'
    go_simp
    with_reducible rfl
  rotate_left
  · simp only [Act.put, List.setIfInBounds_toArray, List.set_cons_zero, List.set_cons_succ, i64_w, i32_w]
    rfl
  refine take_ (i := 1) (N := some 6) (v := ?_) (a' := ?_) #[true, true, false, true, false, false, false] rfl rfl (by kernel_rfl) (fun _ _ _ h => h) (Or.inl ⟨by rfl, ?_⟩) hHeld ?_ ?_
  rotate_left
  · rintro w' ⟨s0, s1, s2, s3, s4, s5, s6, s7⟩
    go_simp
    with_reducible rfl
  rotate_left
  · simp only [Act.put, List.setIfInBounds_toArray, List.set_cons_zero, List.set_cons_succ, i64_w, i32_w]
    rfl
  refine take_ (i := 4) (N := some 9) (v := ?_) (a' := ?_) #[true, true, false, true, true, false, false] rfl rfl (by kernel_rfl) (fun _ _ _ h => h) (Or.inl ⟨by rfl, ?_⟩) hHeld ?_ ?_
  rotate_left
  · rintro w' ⟨s0, s1, s2, s3, s4, s5, s6, s7⟩
    go_simp
    with_reducible rfl
  rotate_left
  · simp only [Act.put, List.setIfInBounds_toArray, List.set_cons_zero, List.set_cons_succ, i64_w, i32_w]
    rfl
  refine one_ (i := 2) (N := some 7) #[true, true, true, true, true, false, false] rfl rfl (by kernel_rfl) (by decide) (fun K hK => ?_)
  refine goes_ Tryd.func13 (by kernel_rfl) rfl #[.agg #[.int .i64 a1_0, .int .i64 a1_1]] (by rfl) rfl rfl (by (try simp only [List.map_toArray, List.map_cons, List.map_nil]); first | done | rfl | (simp only [List.length_drop, List.length_take]; rfl)) ?_
  with_reducible refine (spec_RGPlace.calls k a1_0 a1_1 t149 _ A3.out).mono ?_
  rintro e w10 ⟨rfl, hb⟩
  refine ⟨_, rfl, ?_⟩
  have n0_ := Aside0.mk (blk_below (g := gb146) (o := .cells #[.int .i64 a0_0, .int .i64 a0_1, .int .i64 a0_2, .int .i64 a0_3] 44 (0, 0)) (by (with_reducible repeat (first | refine blk_drewN ?_ _ | refine blk_drew ?_ | refine blk_alloc ?_ _)); exact BK146.out) hb)
  have n1_ := Aside0.mk (blk_below (g := gb147) (o := .cells #[.int .i64 a1_0, .int .i64 a1_1, .int .i64 a1_2, .int .i64 a1_3] 44 (0, 0)) (by (with_reducible repeat (first | refine blk_drewN ?_ _ | refine blk_drew ?_ | refine blk_alloc ?_ _)); exact BK147.out) hb)
  have n2_ := Aside0.mk (blk_below (g := gb148) (o := .cells #[.int .i64 0, .int .i64 0, .int .i64 0, .int .i64 0] 44 (0, 0)) (by (with_reducible repeat (first | refine blk_drewN ?_ _ | refine blk_drew ?_ | refine blk_alloc ?_ _)); exact BK148.out) hb)
  have n3_ := Aside0.mk (below_step (by repeat (first | (with_reducible first | exact HB.out | apply below_alloc | apply pw_below_drewN | apply below_drew1 | refine below_set ?_ GE146.out | refine below_set ?_ GE147.out | refine below_set ?_ GE148.out) | exact HB.out)) hb)
  clear BK146
  clear BK147
  clear BK148
  clear HB
  have BK146 := n0_
  have BK147 := n1_
  have BK148 := n2_
  have HB := n3_
  clear n0_ n1_ n2_ n3_
  (try clear hb)
  (try clear hb2)
  (try clear hk)
  (try clear hi)
  refine hK.out _ _ ⟨(blk_cell BK147.out 0).trans rfl, (blk_cell BK147.out 1).trans rfl, (blk_cell BK147.out 2).trans rfl, (blk_cell BK147.out 3).trans rfl, (blk_cell BK146.out 0).trans rfl, (blk_cell BK146.out 1).trans rfl, (blk_cell BK146.out 2).trans rfl, (blk_cell BK146.out 3).trans rfl⟩ (fun hHeld => ?_)
  clear hK K
  refine norm_ (a' := ?_) ?_ ?_
  rotate_left
  · show Act.put _ (some 7) _ = _
    simp only [Act.put, List.setIfInBounds_toArray, List.set_cons_zero, List.set_cons_succ, i64_w, i32_w]
    rfl
  refine one_ (i := 5) (N := some 10) #[true, true, true, true, true, true, false] rfl rfl (by kernel_rfl) (by decide) (fun K hK => ?_)
  refine goes_ Tryd.func13 (by kernel_rfl) rfl #[.agg #[.int .i64 a0_0, .int .i64 a0_1]] (by rfl) rfl rfl (by (try simp only [List.map_toArray, List.map_cons, List.map_nil]); first | done | rfl | (simp only [List.length_drop, List.length_take]; rfl)) ?_
  with_reducible refine (spec_RGPlace.calls k a0_0 a0_1 t150 _ A4.out).mono ?_
  rintro e w11 ⟨rfl, hb⟩
  refine ⟨_, rfl, ?_⟩
  have n0_ := Aside0.mk (blk_below (g := gb146) (o := .cells #[.int .i64 a0_0, .int .i64 a0_1, .int .i64 a0_2, .int .i64 a0_3] 44 (0, 0)) (by (with_reducible repeat (first | refine blk_drewN ?_ _ | refine blk_drew ?_ | refine blk_alloc ?_ _)); exact BK146.out) hb)
  have n1_ := Aside0.mk (blk_below (g := gb147) (o := .cells #[.int .i64 a1_0, .int .i64 a1_1, .int .i64 a1_2, .int .i64 a1_3] 44 (0, 0)) (by (with_reducible repeat (first | refine blk_drewN ?_ _ | refine blk_drew ?_ | refine blk_alloc ?_ _)); exact BK147.out) hb)
  have n2_ := Aside0.mk (blk_below (g := gb148) (o := .cells #[.int .i64 0, .int .i64 0, .int .i64 0, .int .i64 0] 44 (0, 0)) (by (with_reducible repeat (first | refine blk_drewN ?_ _ | refine blk_drew ?_ | refine blk_alloc ?_ _)); exact BK148.out) hb)
  have n3_ := Aside0.mk (below_step (by repeat (first | (with_reducible first | exact HB.out | apply below_alloc | apply pw_below_drewN | apply below_drew1 | refine below_set ?_ GE146.out | refine below_set ?_ GE147.out | refine below_set ?_ GE148.out) | exact HB.out)) hb)
  clear BK146
  clear BK147
  clear BK148
  clear HB
  have BK146 := n0_
  have BK147 := n1_
  have BK148 := n2_
  have HB := n3_
  clear n0_ n1_ n2_ n3_
  (try clear hb)
  (try clear hb2)
  (try clear hk)
  (try clear hi)
  refine hK.out _ _ ⟨(blk_cell BK147.out 0).trans rfl, (blk_cell BK147.out 1).trans rfl, (blk_cell BK147.out 2).trans rfl, (blk_cell BK147.out 3).trans rfl, (blk_cell BK146.out 0).trans rfl, (blk_cell BK146.out 1).trans rfl, (blk_cell BK146.out 2).trans rfl, (blk_cell BK146.out 3).trans rfl⟩ (fun hHeld => ?_)
  clear hK K
  refine norm_ (a' := ?_) ?_ ?_
  rotate_left
  · show Act.put _ (some 10) _ = _
    simp only [Act.put, List.setIfInBounds_toArray, List.set_cons_zero, List.set_cons_succ, i64_w, i32_w]
    rfl
  refine pure_ (i := 6) (N := some 11) (v := ?_) (a' := ?_) #[true, true, true, true, true, true, true] rfl rfl (by kernel_rfl) (fun _ _ _ h => h) (Or.inl ⟨by rfl, ?_⟩) ?_ ?_
  rotate_left
  · intro w'
    go_simp
    with_reducible rfl
  rotate_left
  · simp only [Act.put, List.setIfInBounds_toArray, List.set_cons_zero, List.set_cons_succ, i64_w, i32_w]
    rfl
  refine done_ (by kernel_rfl) ?_
  go_upto_if 11 with (fail)
  go_cut [] (fun wc => ∃ (kq : Nat) (x147000_4 : Int) (x147001_4 : Int), Aside0 (spec_RGMeet.j0 kq x147000_4 x147001_4 a0_2 a0_3 a1_0 a1_1 a1_2 a1_3 = some (r1, r2, r3, r4)) ∧ Aside0 (kq ≤ k) ∧ Aside0 (wc.heap[gb146]? = some (.cells #[.int .i64 x147000_4, .int .i64 x147001_4, .int .i64 a0_2, .int .i64 a0_3] 44 (0, 0))) ∧ Aside0 (wc.heap[gb147]? = some (.cells #[.int .i64 a1_0, .int .i64 a1_1, .int .i64 a1_2, .int .i64 a1_3] 44 (0, 0))) ∧ Aside0 (wc.heap[gb148]? = some (.cells #[.int .i64 0, .int .i64 0, .int .i64 0, .int .i64 0] 44 (0, 0))) ∧ Aside0 (Below w.heap.size w wc))
  case first =>
    have H := HC5.out
    clear HC5
    by_cases c12 : t149 > t150
    · rw [if_pos c12] at H
      have c12b0 : decide (t150 < t149) = true := decide_eq_true c12
      clear c12
      (first | rw [c12b0] | (simp only [i64_w, i32_w]; rw [c12b0]) | skip)
      have H' := Aside0.mk H
      clear H
      have hnb13 := NB147_146.out
      have hnc13 := NB146_147.out
      have hnb14 := NB147_148.out
      have hnc14 := NB148_147.out
      have hcz15_0 : w11.cell? ⟨gb147, 0, none⟩ = some (.int .i64 a1_0) := (blk_cell BK147.out 0).trans rfl
      have hcz15_1 : w11.cell? ⟨gb147, 1, none⟩ = some (.int .i64 a1_1) := (blk_cell BK147.out 1).trans rfl
      have hcz15_2 : w11.cell? ⟨gb147, 2, none⟩ = some (.int .i64 a1_2) := (blk_cell BK147.out 2).trans rfl
      have hcz15_3 : w11.cell? ⟨gb147, 3, none⟩ = some (.int .i64 a1_3) := (blk_cell BK147.out 3).trans rfl
      have hfz15_0 := blk_frozen BK147.out 0
      have hfz15_1 := blk_frozen BK147.out 1
      have hfz15_2 := blk_frozen BK147.out 2
      have hfz15_3 := blk_frozen BK147.out 3
      have hnb16 := NB146_148.out
      have hnc16 := NB148_146.out
      have hcz17_0 : w11.cell? ⟨gb146, 0, none⟩ = some (.int .i64 a0_0) := (blk_cell BK146.out 0).trans rfl
      have hcz17_1 : w11.cell? ⟨gb146, 1, none⟩ = some (.int .i64 a0_1) := (blk_cell BK146.out 1).trans rfl
      have hcz17_2 : w11.cell? ⟨gb146, 2, none⟩ = some (.int .i64 a0_2) := (blk_cell BK146.out 2).trans rfl
      have hcz17_3 : w11.cell? ⟨gb146, 3, none⟩ = some (.int .i64 a0_3) := (blk_cell BK146.out 3).trans rfl
      have hfz17_0 := blk_frozen BK146.out 0
      have hfz17_1 := blk_frozen BK146.out 1
      have hfz17_2 := blk_frozen BK146.out 2
      have hfz17_3 := blk_frozen BK146.out 3
      go_wp2
      go_meet
      case rel => exact ⟨_, (a1_0), (a1_1), H', ⟨by first | omega | exact Nat.le_refl _⟩, ⟨by (with_reducible repeat (first | refine blk_drewN ?_ _ | refine blk_drew ?_ | refine blk_alloc ?_ _)); refine blk_put (cs := #[.int .i64 a1_0, .int .i64 a0_1, .int .i64 a0_2, .int .i64 a0_3]) ?_ 1 _ rfl; (with_reducible repeat (first | refine blk_drewN ?_ _ | refine blk_drew ?_ | refine blk_alloc ?_ _)); refine blk_put (cs := #[.int .i64 a0_0, .int .i64 a0_1, .int .i64 a0_2, .int .i64 a0_3]) ?_ 0 _ rfl; (with_reducible repeat (first | refine blk_drewN ?_ _ | refine blk_drew ?_ | refine blk_alloc ?_ _)); exact BK146.out⟩, ⟨by (with_reducible repeat (first | refine blk_drewN ?_ _ | refine blk_drew ?_ | refine blk_alloc ?_ _)); refine blk_far ?_ NB147_146.out _; (with_reducible repeat (first | refine blk_drewN ?_ _ | refine blk_drew ?_ | refine blk_alloc ?_ _)); refine blk_far ?_ NB147_146.out _; (with_reducible repeat (first | refine blk_drewN ?_ _ | refine blk_drew ?_ | refine blk_alloc ?_ _)); exact BK147.out⟩, ⟨by (with_reducible repeat (first | refine blk_drewN ?_ _ | refine blk_drew ?_ | refine blk_alloc ?_ _)); refine blk_far ?_ NB148_146.out _; (with_reducible repeat (first | refine blk_drewN ?_ _ | refine blk_drew ?_ | refine blk_alloc ?_ _)); refine blk_far ?_ NB148_146.out _; (with_reducible repeat (first | refine blk_drewN ?_ _ | refine blk_drew ?_ | refine blk_alloc ?_ _)); exact BK148.out⟩, ⟨by repeat (first | (with_reducible first | exact HB.out | apply below_alloc | apply pw_below_drewN | apply below_drew1 | refine below_set ?_ GE146.out | refine below_set ?_ GE147.out | refine below_set ?_ GE148.out) | exact HB.out)⟩⟩
    · rw [if_neg c12] at H
      have c12b0 : decide (t150 < t149) = false := decide_eq_false c12
      clear c12
      (first | rw [c12b0] | (simp only [i64_w, i32_w]; rw [c12b0]) | skip)
      have H' := Aside0.mk H
      clear H
      go_wp2
      go_meet
      case rel => exact ⟨_, (a0_0), (a0_1), H', ⟨by first | omega | exact Nat.le_refl _⟩, ⟨by (with_reducible repeat (first | refine blk_drewN ?_ _ | refine blk_drew ?_ | refine blk_alloc ?_ _)); exact BK146.out⟩, ⟨by (with_reducible repeat (first | refine blk_drewN ?_ _ | refine blk_drew ?_ | refine blk_alloc ?_ _)); exact BK147.out⟩, ⟨by (with_reducible repeat (first | refine blk_drewN ?_ _ | refine blk_drew ?_ | refine blk_alloc ?_ _)); exact BK148.out⟩, ⟨by repeat (first | (with_reducible first | exact HB.out | apply below_alloc | apply pw_below_drewN | apply below_drew1 | refine below_set ?_ GE146.out | refine below_set ?_ GE147.out | refine below_set ?_ GE148.out) | exact HB.out)⟩⟩
  case rest =>
    clear HC5
    try clear c1
    try clear p2
    try clear c6
    try clear c12
    try clear c12b0
    try clear c13
    try clear c14
    try clear c16
    try clear hcz15_0
    try clear hcz15_1
    try clear hcz15_2
    try clear hcz15_3
    try clear hcz17_0
    try clear hcz17_1
    try clear hcz17_2
    try clear hcz17_3
    try clear hfz15_0
    try clear hfz15_1
    try clear hfz15_2
    try clear hfz15_3
    try clear hfz17_0
    try clear hfz17_1
    try clear hfz17_2
    try clear hfz17_3
    obtain ⟨kq, x147000_4, x147001_4, HA, HJ4, BK146, BK147, BK148, HB⟩ := hcut
    cases kq with
    | zero => exact absurd HA.out (by simp [spec_RGMeet.j0])
    | succ kj4 =>
      have H := HA.out
      clear HA
      simp only [spec_RGMeet.j0] at H
      replace H := Option.bind_eq_some_iff.mp H
      obtain ⟨t151, A180, H⟩ := H
      replace H : ((spec_RGPlace.f kj4 a0_2 a0_3).bind fun t152 => (if t151 < t152 then (some (x147000_4, x147001_4, a1_2, a1_3)) else (some (x147000_4, x147001_4, a0_2, a0_3)))) = some (r1, r2, r3, r4) := H
      have A18 := Aside0.mk A180
      clear A180
      replace H := Option.bind_eq_some_iff.mp H
      obtain ⟨t152, A190, H⟩ := H
      replace H : (if t151 < t152 then (some (x147000_4, x147001_4, a1_2, a1_3)) else (some (x147000_4, x147001_4, a0_2, a0_3))) = some (r1, r2, r3, r4) := H
      have A19 := Aside0.mk A190
      clear A190
      by_cases c20 : t151 < t152
      · rw [if_pos c20] at H
        have c20b0 : decide (t151 < t152) = true := decide_eq_true c20
        clear c20
        simp only [Option.some.injEq, Prod.mk.injEq] at H
        obtain ⟨rfl, rfl, rfl, rfl⟩ := H
        try go_wp2
        have n0_ := Aside0.mk (blk_drew BK146.out)
        have n1_ := Aside0.mk (blk_drew BK147.out)
        have n2_ := Aside0.mk (blk_drew BK148.out)
        have n3_ := Aside0.mk (below_drew1 HB.out)
        clear BK146
        clear BK147
        clear BK148
        clear HB
        have BK146 := n0_
        have BK147 := n1_
        have BK148 := n2_
        have HB := n3_
        clear n0_ n1_ n2_ n3_
        refine start_ (n := 7) (S := fun w' => w'.cell? ⟨gb147, 0, none⟩ = some (.int .i64 a1_0) ∧ w'.cell? ⟨gb147, 1, none⟩ = some (.int .i64 a1_1) ∧ w'.cell? ⟨gb147, 2, none⟩ = some (.int .i64 a1_2) ∧ w'.cell? ⟨gb147, 3, none⟩ = some (.int .i64 a1_3) ∧ w'.cell? ⟨gb146, 0, none⟩ = some (.int .i64 x147000_4) ∧ w'.cell? ⟨gb146, 1, none⟩ = some (.int .i64 x147001_4) ∧ w'.cell? ⟨gb146, 2, none⟩ = some (.int .i64 a0_2) ∧ w'.cell? ⟨gb146, 3, none⟩ = some (.int .i64 a0_3)) (ds := []) #[false, false, false, false, false, false, false] (by kernel_rfl) rfl rfl ⟨(blk_cell BK147.out 0).trans rfl, (blk_cell BK147.out 1).trans rfl, (blk_cell BK147.out 2).trans rfl, (blk_cell BK147.out 3).trans rfl, (blk_cell BK146.out 0).trans rfl, (blk_cell BK146.out 1).trans rfl, (blk_cell BK146.out 2).trans rfl, (blk_cell BK146.out 3).trans rfl⟩ (fun hHeld => ?_)
        generalize wc.drew = w21 at BK146 BK147 BK148 HB hHeld ⊢
        refine pure_ (i := 0) (N := some 15) (v := ?_) (a' := ?_) #[true, false, false, false, false, false, false] rfl rfl (by kernel_rfl) (fun _ _ _ h => h) (Or.inl ⟨by rfl, ?_⟩) ?_ ?_
        rotate_left
        · intro w'
          go_simp
          with_reducible rfl
        rotate_left
        · simp only [Act.put, List.setIfInBounds_toArray, List.set_cons_zero, List.set_cons_succ, i64_w, i32_w]
          rfl
        refine pure_ (i := 3) (N := some 18) (v := ?_) (a' := ?_) #[true, false, false, true, false, false, false] rfl rfl (by kernel_rfl) (fun _ _ _ h => h) (Or.inl ⟨by rfl, ?_⟩) ?_ ?_
        rotate_left
        · intro w'
          go_simp
          with_reducible rfl
        rotate_left
        · simp only [Act.put, List.setIfInBounds_toArray, List.set_cons_zero, List.set_cons_succ, i64_w, i32_w]
          rfl
        refine take_ (i := 1) (N := some 16) (v := ?_) (a' := ?_) #[true, true, false, true, false, false, false] rfl rfl (by kernel_rfl) (fun _ _ _ h => h) (Or.inl ⟨by rfl, ?_⟩) hHeld ?_ ?_
        rotate_left
        · rintro w' ⟨s0, s1, s2, s3, s4, s5, s6, s7⟩
          go_simp
          with_reducible rfl
        rotate_left
        · simp only [Act.put, List.setIfInBounds_toArray, List.set_cons_zero, List.set_cons_succ, i64_w, i32_w]
          rfl
        refine take_ (i := 4) (N := some 19) (v := ?_) (a' := ?_) #[true, true, false, true, true, false, false] rfl rfl (by kernel_rfl) (fun _ _ _ h => h) (Or.inl ⟨by rfl, ?_⟩) hHeld ?_ ?_
        rotate_left
        · rintro w' ⟨s0, s1, s2, s3, s4, s5, s6, s7⟩
          go_simp
          with_reducible rfl
        rotate_left
        · simp only [Act.put, List.setIfInBounds_toArray, List.set_cons_zero, List.set_cons_succ, i64_w, i32_w]
          rfl
        refine one_ (i := 2) (N := some 17) #[true, true, true, true, true, false, false] rfl rfl (by kernel_rfl) (by decide) (fun K hK => ?_)
        refine goes_ Tryd.func13 (by kernel_rfl) rfl #[.agg #[.int .i64 a1_2, .int .i64 a1_3]] (by rfl) rfl rfl (by (try simp only [List.map_toArray, List.map_cons, List.map_nil]); first | done | rfl | (simp only [List.length_drop, List.length_take]; rfl)) ?_
        with_reducible refine (spec_RGPlace.calls kj4 a1_2 a1_3 t151 _ A18.out).mono ?_
        rintro e w22 ⟨rfl, hb⟩
        refine ⟨_, rfl, ?_⟩
        have n0_ := Aside0.mk (blk_below (g := gb146) (o := .cells #[.int .i64 x147000_4, .int .i64 x147001_4, .int .i64 a0_2, .int .i64 a0_3] 44 (0, 0)) (by (with_reducible repeat (first | refine blk_drewN ?_ _ | refine blk_drew ?_ | refine blk_alloc ?_ _)); exact BK146.out) hb)
        have n1_ := Aside0.mk (blk_below (g := gb147) (o := .cells #[.int .i64 a1_0, .int .i64 a1_1, .int .i64 a1_2, .int .i64 a1_3] 44 (0, 0)) (by (with_reducible repeat (first | refine blk_drewN ?_ _ | refine blk_drew ?_ | refine blk_alloc ?_ _)); exact BK147.out) hb)
        have n2_ := Aside0.mk (blk_below (g := gb148) (o := .cells #[.int .i64 0, .int .i64 0, .int .i64 0, .int .i64 0] 44 (0, 0)) (by (with_reducible repeat (first | refine blk_drewN ?_ _ | refine blk_drew ?_ | refine blk_alloc ?_ _)); exact BK148.out) hb)
        have n3_ := Aside0.mk (below_step (by repeat (first | (with_reducible first | exact HB.out | apply below_alloc | apply pw_below_drewN | apply below_drew1 | refine below_set ?_ GE146.out | refine below_set ?_ GE147.out | refine below_set ?_ GE148.out) | exact HB.out)) hb)
        clear BK146
        clear BK147
        clear BK148
        clear HB
        have BK146 := n0_
        have BK147 := n1_
        have BK148 := n2_
        have HB := n3_
        clear n0_ n1_ n2_ n3_
        (try clear hb)
        (try clear hb2)
        (try clear hk)
        (try clear hi)
        refine hK.out _ _ ⟨(blk_cell BK147.out 0).trans rfl, (blk_cell BK147.out 1).trans rfl, (blk_cell BK147.out 2).trans rfl, (blk_cell BK147.out 3).trans rfl, (blk_cell BK146.out 0).trans rfl, (blk_cell BK146.out 1).trans rfl, (blk_cell BK146.out 2).trans rfl, (blk_cell BK146.out 3).trans rfl⟩ (fun hHeld => ?_)
        clear hK K
        refine norm_ (a' := ?_) ?_ ?_
        rotate_left
        · show Act.put _ (some 17) _ = _
          simp only [Act.put, List.setIfInBounds_toArray, List.set_cons_zero, List.set_cons_succ, i64_w, i32_w]
          rfl
        refine one_ (i := 5) (N := some 20) #[true, true, true, true, true, true, false] rfl rfl (by kernel_rfl) (by decide) (fun K hK => ?_)
        refine goes_ Tryd.func13 (by kernel_rfl) rfl #[.agg #[.int .i64 a0_2, .int .i64 a0_3]] (by rfl) rfl rfl (by (try simp only [List.map_toArray, List.map_cons, List.map_nil]); first | done | rfl | (simp only [List.length_drop, List.length_take]; rfl)) ?_
        with_reducible refine (spec_RGPlace.calls kj4 a0_2 a0_3 t152 _ A19.out).mono ?_
        rintro e w23 ⟨rfl, hb⟩
        refine ⟨_, rfl, ?_⟩
        have n0_ := Aside0.mk (blk_below (g := gb146) (o := .cells #[.int .i64 x147000_4, .int .i64 x147001_4, .int .i64 a0_2, .int .i64 a0_3] 44 (0, 0)) (by (with_reducible repeat (first | refine blk_drewN ?_ _ | refine blk_drew ?_ | refine blk_alloc ?_ _)); exact BK146.out) hb)
        have n1_ := Aside0.mk (blk_below (g := gb147) (o := .cells #[.int .i64 a1_0, .int .i64 a1_1, .int .i64 a1_2, .int .i64 a1_3] 44 (0, 0)) (by (with_reducible repeat (first | refine blk_drewN ?_ _ | refine blk_drew ?_ | refine blk_alloc ?_ _)); exact BK147.out) hb)
        have n2_ := Aside0.mk (blk_below (g := gb148) (o := .cells #[.int .i64 0, .int .i64 0, .int .i64 0, .int .i64 0] 44 (0, 0)) (by (with_reducible repeat (first | refine blk_drewN ?_ _ | refine blk_drew ?_ | refine blk_alloc ?_ _)); exact BK148.out) hb)
        have n3_ := Aside0.mk (below_step (by repeat (first | (with_reducible first | exact HB.out | apply below_alloc | apply pw_below_drewN | apply below_drew1 | refine below_set ?_ GE146.out | refine below_set ?_ GE147.out | refine below_set ?_ GE148.out) | exact HB.out)) hb)
        clear BK146
        clear BK147
        clear BK148
        clear HB
        have BK146 := n0_
        have BK147 := n1_
        have BK148 := n2_
        have HB := n3_
        clear n0_ n1_ n2_ n3_
        (try clear hb)
        (try clear hb2)
        (try clear hk)
        (try clear hi)
        refine hK.out _ _ ⟨(blk_cell BK147.out 0).trans rfl, (blk_cell BK147.out 1).trans rfl, (blk_cell BK147.out 2).trans rfl, (blk_cell BK147.out 3).trans rfl, (blk_cell BK146.out 0).trans rfl, (blk_cell BK146.out 1).trans rfl, (blk_cell BK146.out 2).trans rfl, (blk_cell BK146.out 3).trans rfl⟩ (fun hHeld => ?_)
        clear hK K
        refine norm_ (a' := ?_) ?_ ?_
        rotate_left
        · show Act.put _ (some 20) _ = _
          simp only [Act.put, List.setIfInBounds_toArray, List.set_cons_zero, List.set_cons_succ, i64_w, i32_w]
          rfl
        refine pure_ (i := 6) (N := some 21) (v := ?_) (a' := ?_) #[true, true, true, true, true, true, true] rfl rfl (by kernel_rfl) (fun _ _ _ h => h) (Or.inl ⟨by rfl, ?_⟩) ?_ ?_
        rotate_left
        · intro w'
          go_simp
          with_reducible rfl
        rotate_left
        · simp only [Act.put, List.setIfInBounds_toArray, List.set_cons_zero, List.set_cons_succ, i64_w, i32_w]
          rfl
        refine done_ (by kernel_rfl) ?_
        have hnb24 := NB147_146.out
        have hnc24 := NB146_147.out
        have hnb25 := NB147_148.out
        have hnc25 := NB148_147.out
        have hcz26_0 : w23.cell? ⟨gb147, 0, none⟩ = some (.int .i64 a1_0) := (blk_cell BK147.out 0).trans rfl
        have hcz26_1 : w23.cell? ⟨gb147, 1, none⟩ = some (.int .i64 a1_1) := (blk_cell BK147.out 1).trans rfl
        have hcz26_2 : w23.cell? ⟨gb147, 2, none⟩ = some (.int .i64 a1_2) := (blk_cell BK147.out 2).trans rfl
        have hcz26_3 : w23.cell? ⟨gb147, 3, none⟩ = some (.int .i64 a1_3) := (blk_cell BK147.out 3).trans rfl
        have hfz26_0 := blk_frozen BK147.out 0
        have hfz26_1 := blk_frozen BK147.out 1
        have hfz26_2 := blk_frozen BK147.out 2
        have hfz26_3 := blk_frozen BK147.out 3
        have hnb27 := NB146_148.out
        have hnc27 := NB148_146.out
        have hcz28_0 : w23.cell? ⟨gb146, 0, none⟩ = some (.int .i64 x147000_4) := (blk_cell BK146.out 0).trans rfl
        have hcz28_1 : w23.cell? ⟨gb146, 1, none⟩ = some (.int .i64 x147001_4) := (blk_cell BK146.out 1).trans rfl
        have hcz28_2 : w23.cell? ⟨gb146, 2, none⟩ = some (.int .i64 a0_2) := (blk_cell BK146.out 2).trans rfl
        have hcz28_3 : w23.cell? ⟨gb146, 3, none⟩ = some (.int .i64 a0_3) := (blk_cell BK146.out 3).trans rfl
        have hfz28_0 := blk_frozen BK146.out 0
        have hfz28_1 := blk_frozen BK146.out 1
        have hfz28_2 := blk_frozen BK146.out 2
        have hfz28_3 := blk_frozen BK146.out 3
        have hcz29_0 : w23.cell? ⟨gb148, 0, none⟩ = some (.int .i64 0) := (blk_cell BK148.out 0).trans rfl
        have hcz29_1 : w23.cell? ⟨gb148, 1, none⟩ = some (.int .i64 0) := (blk_cell BK148.out 1).trans rfl
        have hcz29_2 : w23.cell? ⟨gb148, 2, none⟩ = some (.int .i64 0) := (blk_cell BK148.out 2).trans rfl
        have hcz29_3 : w23.cell? ⟨gb148, 3, none⟩ = some (.int .i64 0) := (blk_cell BK148.out 3).trans rfl
        have hfz29_0 := blk_frozen BK148.out 0
        have hfz29_1 := blk_frozen BK148.out 1
        have hfz29_2 := blk_frozen BK148.out 2
        have hfz29_3 := blk_frozen BK148.out 3
        try go_wp2
        refine bodyPost_ret (results_cell_row rfl _ _ gb148 44 #[.int .i64 x147000_4, .int .i64 x147001_4, .int .i64 a1_2, .int .i64 a1_3] (0, 0) _ rfl (by (with_reducible repeat (first | refine blk_drewN ?_ _ | refine blk_drew ?_ | refine blk_alloc ?_ _)); refine blk_put (cs := #[.int .i64 x147000_4, .int .i64 x147001_4, .int .i64 a1_2, .int .i64 0]) ?_ 3 _ rfl; (with_reducible repeat (first | refine blk_drewN ?_ _ | refine blk_drew ?_ | refine blk_alloc ?_ _)); refine blk_put (cs := #[.int .i64 x147000_4, .int .i64 x147001_4, .int .i64 0, .int .i64 0]) ?_ 2 _ rfl; (with_reducible repeat (first | refine blk_drewN ?_ _ | refine blk_drew ?_ | refine blk_alloc ?_ _)); refine blk_put (cs := #[.int .i64 x147000_4, .int .i64 0, .int .i64 0, .int .i64 0]) ?_ 1 _ rfl; (with_reducible repeat (first | refine blk_drewN ?_ _ | refine blk_drew ?_ | refine blk_alloc ?_ _)); refine blk_put (cs := #[.int .i64 0, .int .i64 0, .int .i64 0, .int .i64 0]) ?_ 0 _ rfl; (with_reducible repeat (first | refine blk_drewN ?_ _ | refine blk_drew ?_ | refine blk_alloc ?_ _)); refine blk_far ?_ NB148_146.out _; (with_reducible repeat (first | refine blk_drewN ?_ _ | refine blk_drew ?_ | refine blk_alloc ?_ _)); refine blk_far ?_ NB148_146.out _; (with_reducible repeat (first | refine blk_drewN ?_ _ | refine blk_drew ?_ | refine blk_alloc ?_ _)); exact BK148.out) Tryd.underlying44 rfl (by kernel_rfl)) rfl ?_
        exact ⟨by first | rfl | (simp [errW_none, errW_some] <;> rfl) | (simp [*, errW_none, errW_some] <;> rfl), by repeat (first | (with_reducible first | exact HB.out | apply below_alloc | apply pw_below_drewN | apply below_drew1 | refine below_set ?_ GE146.out | refine below_set ?_ GE147.out | refine below_set ?_ GE148.out) | exact HB.out)⟩
      · rw [if_neg c20] at H
        have c20b0 : decide (t151 < t152) = false := decide_eq_false c20
        clear c20
        simp only [Option.some.injEq, Prod.mk.injEq] at H
        obtain ⟨rfl, rfl, rfl, rfl⟩ := H
        try go_wp2
        have n0_ := Aside0.mk (blk_drew BK146.out)
        have n1_ := Aside0.mk (blk_drew BK147.out)
        have n2_ := Aside0.mk (blk_drew BK148.out)
        have n3_ := Aside0.mk (below_drew1 HB.out)
        clear BK146
        clear BK147
        clear BK148
        clear HB
        have BK146 := n0_
        have BK147 := n1_
        have BK148 := n2_
        have HB := n3_
        clear n0_ n1_ n2_ n3_
        refine start_ (n := 7) (S := fun w' => w'.cell? ⟨gb147, 0, none⟩ = some (.int .i64 a1_0) ∧ w'.cell? ⟨gb147, 1, none⟩ = some (.int .i64 a1_1) ∧ w'.cell? ⟨gb147, 2, none⟩ = some (.int .i64 a1_2) ∧ w'.cell? ⟨gb147, 3, none⟩ = some (.int .i64 a1_3) ∧ w'.cell? ⟨gb146, 0, none⟩ = some (.int .i64 x147000_4) ∧ w'.cell? ⟨gb146, 1, none⟩ = some (.int .i64 x147001_4) ∧ w'.cell? ⟨gb146, 2, none⟩ = some (.int .i64 a0_2) ∧ w'.cell? ⟨gb146, 3, none⟩ = some (.int .i64 a0_3)) (ds := []) #[false, false, false, false, false, false, false] (by kernel_rfl) rfl rfl ⟨(blk_cell BK147.out 0).trans rfl, (blk_cell BK147.out 1).trans rfl, (blk_cell BK147.out 2).trans rfl, (blk_cell BK147.out 3).trans rfl, (blk_cell BK146.out 0).trans rfl, (blk_cell BK146.out 1).trans rfl, (blk_cell BK146.out 2).trans rfl, (blk_cell BK146.out 3).trans rfl⟩ (fun hHeld => ?_)
        generalize wc.drew = w30 at BK146 BK147 BK148 HB hHeld ⊢
        refine pure_ (i := 0) (N := some 15) (v := ?_) (a' := ?_) #[true, false, false, false, false, false, false] rfl rfl (by kernel_rfl) (fun _ _ _ h => h) (Or.inl ⟨by rfl, ?_⟩) ?_ ?_
        rotate_left
        · intro w'
          go_simp
          with_reducible rfl
        rotate_left
        · simp only [Act.put, List.setIfInBounds_toArray, List.set_cons_zero, List.set_cons_succ, i64_w, i32_w]
          rfl
        refine pure_ (i := 3) (N := some 18) (v := ?_) (a' := ?_) #[true, false, false, true, false, false, false] rfl rfl (by kernel_rfl) (fun _ _ _ h => h) (Or.inl ⟨by rfl, ?_⟩) ?_ ?_
        rotate_left
        · intro w'
          go_simp
          with_reducible rfl
        rotate_left
        · simp only [Act.put, List.setIfInBounds_toArray, List.set_cons_zero, List.set_cons_succ, i64_w, i32_w]
          rfl
        refine take_ (i := 1) (N := some 16) (v := ?_) (a' := ?_) #[true, true, false, true, false, false, false] rfl rfl (by kernel_rfl) (fun _ _ _ h => h) (Or.inl ⟨by rfl, ?_⟩) hHeld ?_ ?_
        rotate_left
        · rintro w' ⟨s0, s1, s2, s3, s4, s5, s6, s7⟩
          go_simp
          with_reducible rfl
        rotate_left
        · simp only [Act.put, List.setIfInBounds_toArray, List.set_cons_zero, List.set_cons_succ, i64_w, i32_w]
          rfl
        refine take_ (i := 4) (N := some 19) (v := ?_) (a' := ?_) #[true, true, false, true, true, false, false] rfl rfl (by kernel_rfl) (fun _ _ _ h => h) (Or.inl ⟨by rfl, ?_⟩) hHeld ?_ ?_
        rotate_left
        · rintro w' ⟨s0, s1, s2, s3, s4, s5, s6, s7⟩
          go_simp
          with_reducible rfl
        rotate_left
        · simp only [Act.put, List.setIfInBounds_toArray, List.set_cons_zero, List.set_cons_succ, i64_w, i32_w]
          rfl
        refine one_ (i := 2) (N := some 17) #[true, true, true, true, true, false, false] rfl rfl (by kernel_rfl) (by decide) (fun K hK => ?_)
        refine goes_ Tryd.func13 (by kernel_rfl) rfl #[.agg #[.int .i64 a1_2, .int .i64 a1_3]] (by rfl) rfl rfl (by (try simp only [List.map_toArray, List.map_cons, List.map_nil]); first | done | rfl | (simp only [List.length_drop, List.length_take]; rfl)) ?_
        with_reducible refine (spec_RGPlace.calls kj4 a1_2 a1_3 t151 _ A18.out).mono ?_
        rintro e w31 ⟨rfl, hb⟩
        refine ⟨_, rfl, ?_⟩
        have n0_ := Aside0.mk (blk_below (g := gb146) (o := .cells #[.int .i64 x147000_4, .int .i64 x147001_4, .int .i64 a0_2, .int .i64 a0_3] 44 (0, 0)) (by (with_reducible repeat (first | refine blk_drewN ?_ _ | refine blk_drew ?_ | refine blk_alloc ?_ _)); exact BK146.out) hb)
        have n1_ := Aside0.mk (blk_below (g := gb147) (o := .cells #[.int .i64 a1_0, .int .i64 a1_1, .int .i64 a1_2, .int .i64 a1_3] 44 (0, 0)) (by (with_reducible repeat (first | refine blk_drewN ?_ _ | refine blk_drew ?_ | refine blk_alloc ?_ _)); exact BK147.out) hb)
        have n2_ := Aside0.mk (blk_below (g := gb148) (o := .cells #[.int .i64 0, .int .i64 0, .int .i64 0, .int .i64 0] 44 (0, 0)) (by (with_reducible repeat (first | refine blk_drewN ?_ _ | refine blk_drew ?_ | refine blk_alloc ?_ _)); exact BK148.out) hb)
        have n3_ := Aside0.mk (below_step (by repeat (first | (with_reducible first | exact HB.out | apply below_alloc | apply pw_below_drewN | apply below_drew1 | refine below_set ?_ GE146.out | refine below_set ?_ GE147.out | refine below_set ?_ GE148.out) | exact HB.out)) hb)
        clear BK146
        clear BK147
        clear BK148
        clear HB
        have BK146 := n0_
        have BK147 := n1_
        have BK148 := n2_
        have HB := n3_
        clear n0_ n1_ n2_ n3_
        (try clear hb)
        (try clear hb2)
        (try clear hk)
        (try clear hi)
        refine hK.out _ _ ⟨(blk_cell BK147.out 0).trans rfl, (blk_cell BK147.out 1).trans rfl, (blk_cell BK147.out 2).trans rfl, (blk_cell BK147.out 3).trans rfl, (blk_cell BK146.out 0).trans rfl, (blk_cell BK146.out 1).trans rfl, (blk_cell BK146.out 2).trans rfl, (blk_cell BK146.out 3).trans rfl⟩ (fun hHeld => ?_)
        clear hK K
        refine norm_ (a' := ?_) ?_ ?_
        rotate_left
        · show Act.put _ (some 17) _ = _
          simp only [Act.put, List.setIfInBounds_toArray, List.set_cons_zero, List.set_cons_succ, i64_w, i32_w]
          rfl
        refine one_ (i := 5) (N := some 20) #[true, true, true, true, true, true, false] rfl rfl (by kernel_rfl) (by decide) (fun K hK => ?_)
        refine goes_ Tryd.func13 (by kernel_rfl) rfl #[.agg #[.int .i64 a0_2, .int .i64 a0_3]] (by rfl) rfl rfl (by (try simp only [List.map_toArray, List.map_cons, List.map_nil]); first | done | rfl | (simp only [List.length_drop, List.length_take]; rfl)) ?_
        with_reducible refine (spec_RGPlace.calls kj4 a0_2 a0_3 t152 _ A19.out).mono ?_
        rintro e w32 ⟨rfl, hb⟩
        refine ⟨_, rfl, ?_⟩
        have n0_ := Aside0.mk (blk_below (g := gb146) (o := .cells #[.int .i64 x147000_4, .int .i64 x147001_4, .int .i64 a0_2, .int .i64 a0_3] 44 (0, 0)) (by (with_reducible repeat (first | refine blk_drewN ?_ _ | refine blk_drew ?_ | refine blk_alloc ?_ _)); exact BK146.out) hb)
        have n1_ := Aside0.mk (blk_below (g := gb147) (o := .cells #[.int .i64 a1_0, .int .i64 a1_1, .int .i64 a1_2, .int .i64 a1_3] 44 (0, 0)) (by (with_reducible repeat (first | refine blk_drewN ?_ _ | refine blk_drew ?_ | refine blk_alloc ?_ _)); exact BK147.out) hb)
        have n2_ := Aside0.mk (blk_below (g := gb148) (o := .cells #[.int .i64 0, .int .i64 0, .int .i64 0, .int .i64 0] 44 (0, 0)) (by (with_reducible repeat (first | refine blk_drewN ?_ _ | refine blk_drew ?_ | refine blk_alloc ?_ _)); exact BK148.out) hb)
        have n3_ := Aside0.mk (below_step (by repeat (first | (with_reducible first | exact HB.out | apply below_alloc | apply pw_below_drewN | apply below_drew1 | refine below_set ?_ GE146.out | refine below_set ?_ GE147.out | refine below_set ?_ GE148.out) | exact HB.out)) hb)
        clear BK146
        clear BK147
        clear BK148
        clear HB
        have BK146 := n0_
        have BK147 := n1_
        have BK148 := n2_
        have HB := n3_
        clear n0_ n1_ n2_ n3_
        (try clear hb)
        (try clear hb2)
        (try clear hk)
        (try clear hi)
        refine hK.out _ _ ⟨(blk_cell BK147.out 0).trans rfl, (blk_cell BK147.out 1).trans rfl, (blk_cell BK147.out 2).trans rfl, (blk_cell BK147.out 3).trans rfl, (blk_cell BK146.out 0).trans rfl, (blk_cell BK146.out 1).trans rfl, (blk_cell BK146.out 2).trans rfl, (blk_cell BK146.out 3).trans rfl⟩ (fun hHeld => ?_)
        clear hK K
        refine norm_ (a' := ?_) ?_ ?_
        rotate_left
        · show Act.put _ (some 20) _ = _
          simp only [Act.put, List.setIfInBounds_toArray, List.set_cons_zero, List.set_cons_succ, i64_w, i32_w]
          rfl
        refine pure_ (i := 6) (N := some 21) (v := ?_) (a' := ?_) #[true, true, true, true, true, true, true] rfl rfl (by kernel_rfl) (fun _ _ _ h => h) (Or.inl ⟨by rfl, ?_⟩) ?_ ?_
        rotate_left
        · intro w'
          go_simp
          with_reducible rfl
        rotate_left
        · simp only [Act.put, List.setIfInBounds_toArray, List.set_cons_zero, List.set_cons_succ, i64_w, i32_w]
          rfl
        refine done_ (by kernel_rfl) ?_
        have hnb33 := NB146_147.out
        have hnc33 := NB147_146.out
        have hnb34 := NB146_148.out
        have hnc34 := NB148_146.out
        have hcz35_0 : w32.cell? ⟨gb146, 0, none⟩ = some (.int .i64 x147000_4) := (blk_cell BK146.out 0).trans rfl
        have hcz35_1 : w32.cell? ⟨gb146, 1, none⟩ = some (.int .i64 x147001_4) := (blk_cell BK146.out 1).trans rfl
        have hcz35_2 : w32.cell? ⟨gb146, 2, none⟩ = some (.int .i64 a0_2) := (blk_cell BK146.out 2).trans rfl
        have hcz35_3 : w32.cell? ⟨gb146, 3, none⟩ = some (.int .i64 a0_3) := (blk_cell BK146.out 3).trans rfl
        have hfz35_0 := blk_frozen BK146.out 0
        have hfz35_1 := blk_frozen BK146.out 1
        have hfz35_2 := blk_frozen BK146.out 2
        have hfz35_3 := blk_frozen BK146.out 3
        have hnb36 := NB148_147.out
        have hnc36 := NB147_148.out
        have hcz37_0 : w32.cell? ⟨gb148, 0, none⟩ = some (.int .i64 0) := (blk_cell BK148.out 0).trans rfl
        have hcz37_1 : w32.cell? ⟨gb148, 1, none⟩ = some (.int .i64 0) := (blk_cell BK148.out 1).trans rfl
        have hcz37_2 : w32.cell? ⟨gb148, 2, none⟩ = some (.int .i64 0) := (blk_cell BK148.out 2).trans rfl
        have hcz37_3 : w32.cell? ⟨gb148, 3, none⟩ = some (.int .i64 0) := (blk_cell BK148.out 3).trans rfl
        have hfz37_0 := blk_frozen BK148.out 0
        have hfz37_1 := blk_frozen BK148.out 1
        have hfz37_2 := blk_frozen BK148.out 2
        have hfz37_3 := blk_frozen BK148.out 3
        try go_wp2
        refine bodyPost_ret (results_cell_row rfl _ _ gb148 44 #[.int .i64 x147000_4, .int .i64 x147001_4, .int .i64 a0_2, .int .i64 a0_3] (0, 0) _ rfl (by (with_reducible repeat (first | refine blk_drewN ?_ _ | refine blk_drew ?_ | refine blk_alloc ?_ _)); refine blk_put (cs := #[.int .i64 x147000_4, .int .i64 x147001_4, .int .i64 a0_2, .int .i64 0]) ?_ 3 _ rfl; (with_reducible repeat (first | refine blk_drewN ?_ _ | refine blk_drew ?_ | refine blk_alloc ?_ _)); refine blk_put (cs := #[.int .i64 x147000_4, .int .i64 x147001_4, .int .i64 0, .int .i64 0]) ?_ 2 _ rfl; (with_reducible repeat (first | refine blk_drewN ?_ _ | refine blk_drew ?_ | refine blk_alloc ?_ _)); refine blk_put (cs := #[.int .i64 x147000_4, .int .i64 0, .int .i64 0, .int .i64 0]) ?_ 1 _ rfl; (with_reducible repeat (first | refine blk_drewN ?_ _ | refine blk_drew ?_ | refine blk_alloc ?_ _)); refine blk_put (cs := #[.int .i64 0, .int .i64 0, .int .i64 0, .int .i64 0]) ?_ 0 _ rfl; (with_reducible repeat (first | refine blk_drewN ?_ _ | refine blk_drew ?_ | refine blk_alloc ?_ _)); exact BK148.out) Tryd.underlying44 rfl (by kernel_rfl)) rfl ?_
        exact ⟨by first | rfl | (simp [errW_none, errW_some] <;> rfl) | (simp [*, errW_none, errW_some] <;> rfl), by repeat (first | (with_reducible first | exact HB.out | apply below_alloc | apply pw_below_drewN | apply below_drew1 | refine below_set ?_ GE146.out | refine below_set ?_ GE147.out | refine below_set ?_ GE148.out) | exact HB.out)⟩

end Go.Proofs.YtlcoodjkolponaaDoor.PRR
