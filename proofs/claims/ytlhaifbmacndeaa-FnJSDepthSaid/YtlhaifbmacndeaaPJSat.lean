-- written by gprint.py, a program of this claim's own, by means of the kit's print
import Derived.Test.YtlhaifbmacndeaaPJS0
namespace Go.Proofs.Ytlhaifbmacndeaa.PJS
open Go.RowKit Go.Proofs.YtlhaifbmacndeaaW.PrintWords Go.Proofs.YtlhaifbmacndeaaW.PrintLast Go.Proofs.YtlhaifbmacndeaaW.PrintMore
attribute [local go_sem] max2_int min2_int max_two min_two max_three min_three max_four min_four   -- for this text's walks alone
set_option linter.unusedVariables false
set_option linter.unusedSimpArgs false

/-! ### spec_JSAt: function 21 -/
def spec_JSAt.l0 : Nat → ByteArray → Int → Int → Int → ByteArray → List ByteArray → List (S26) → Option (Int)
  | 0, _, _, _, _, _, _, _ => none
  | k + 1, x1, x5, x150000, x150001, x150002, x150003, x150004 => if x5 < (x150003.length : Int) then (if 0 ≤ x5 then (if (rdOf ByteArray.empty x150003 x5).toList = x1.toList then (some x5) else (spec_JSAt.l0 k x1 (wrap64 (x5 + 1)) x150000 x150001 x150002 x150003 x150004)) else (none)) else (some (-1))
def spec_JSAt.f (k : Nat) (a0_0 : Int) (a0_1 : Int) (a0_2 : ByteArray) (l0_3 : List ByteArray) (l0_4 : List (S26)) (a1 : ByteArray) : Option (Int) := spec_JSAt.l0 k a1 0 a0_0 a0_1 a0_2 l0_3 l0_4
theorem spec_JSAt.mono_l : ∀ k, (∀ y0 y1 y2 y3 y4 y5 y6, LeO (spec_JSAt.l0 k y0 y1 y2 y3 y4 y5 y6) (spec_JSAt.l0 (k + 1) y0 y1 y2 y3 y4 y5 y6))
  | 0 => fun _ _ _ _ _ _ _ r h => by simp [spec_JSAt.l0] at h
  | k + 1 => by
    have ih0 := spec_JSAt.mono_l k
    · intro y0 y1 y2 y3 y4 y5 y6
      unfold spec_JSAt.l0
      repeat' first
      | (with_reducible exact ih0 _ _ _ _ _ _ _)
      | (with_reducible exact LeO.refl _)
      | (with_reducible exact LeO.none _)
      | (with_reducible refine LeO.ite ?_ ?_)
      | (with_reducible refine LeO.bind ?_ (fun _ => ?_))
      | exact ih0 _ _ _ _ _ _ _
      | exact LeO.none _
      | refine LeO.ite ?_ ?_
      | refine LeO.bind ?_ (fun _ => ?_)
theorem spec_JSAt.mono : ∀ a0 a1 a2 a3 a4 a5 k, LeO (spec_JSAt.f k a0 a1 a2 a3 a4 a5) (spec_JSAt.f (k + 1) a0 a1 a2 a3 a4 a5) := by
  intro a0 a1 a2 a3 a4 a5 k
  have ih0 := spec_JSAt.mono_l k
  unfold spec_JSAt.f
  repeat' first
      | (with_reducible exact ih0 _ _ _ _ _ _ _)
      | (with_reducible exact LeO.refl _)
      | (with_reducible exact LeO.none _)
      | (with_reducible refine LeO.ite ?_ ?_)
      | (with_reducible refine LeO.bind ?_ (fun _ => ?_))
      | exact ih0 _ _ _ _ _ _ _
      | exact LeO.none _
      | refine LeO.ite ?_ ?_
      | refine LeO.bind ?_ (fun _ => ?_)
set_option maxHeartbeats 8000000 in
set_option maxRecDepth 100000 in
theorem spec_JSAt.calls (k : Nat) (a0_0 : Int) (a0_1 : Int) (a0_2 : ByteArray) (A0_3 : Option Addr) (c0_3 : Nat) (l0_3 : List ByteArray) (A0_4 : Option Addr) (c0_4 : Nat) (l0_4 : List (S26)) (a1 : ByteArray) (r : Int) (w : World) (hr0_3 : Kd.C Kd.string w A0_3 l0_3.length l0_3) (hc0_3 : l0_3.length ≤ c0_3) (hr0_4 : Kd.C k26 w A0_4 l0_4.length l0_4) (hc0_4 : l0_4.length ≤ c0_4) (h : spec_JSAt.f k a0_0 a0_1 a0_2 l0_3 l0_4 a1 = some r) :
    Calls Try.prog 21 #[.agg #[.int .i64 a0_0, .int .i64 a0_1, .string a0_2, .slice A0_3 l0_3.length c0_3, .slice A0_4 l0_4.length c0_4], .string a1] w fun e w' => e = .returned (.int .i64 r) ∧ Below w.heap.size w w' := by
  have hu26 := Try.underlying26
  have HR0_3 := Aside0.mk hr0_3
  have HC0_3 := Aside0.mk hc0_3
  clear hr0_3 hc0_3
  have HR0_4 := Aside0.mk hr0_4
  have HC0_4 := Aside0.mk hc0_4
  clear hr0_4 hc0_4
  have HB := Aside0.mk (Below.refl w.heap.size w)
  have H : (spec_JSAt.l0 k a1 0 a0_0 a0_1 a0_2 l0_3 l0_4) = some r := h
  clear h
  have H' := Aside0.mk H
  clear H
  go_enter Try.func21, Try.ntmps21
  go_wp2_with (first | ((with_reducible refine gate_dst (N := 2) rfl ?_); refine box_event ?hg (N := 2) ?hd (cs := #[.int .i64 a0_0, .int .i64 a0_1, .string a0_2, .slice A0_3 l0_3.length c0_3, .slice A0_4 l0_4.length c0_4]) (t := 26) ?hr ?_; (case hd => rfl); (case hg => rfl); (case hr => first | (go_simp; done) | (go_simp; rfl)); intro gb149 hg w3 hbox hb; have n0_ := Aside0.mk (below_step (by repeat (first | (with_reducible first | exact HB.out | apply below_alloc | apply pw_below_drewN | apply below_drew1) | exact HB.out)) hb); have n1_ := Aside0.mk (hbox); have n2_ := Aside0.mk ((by rw [hg]; exact (below_size (by repeat (first | (with_reducible first | exact HB.out | apply below_alloc | apply pw_below_drewN | apply below_drew1) | exact HB.out))) : w.heap.size ≤ gb149)); have n3_ := Aside0.mk ((by rw [hg]; exact (below_size (by repeat (first | (with_reducible first | exact HB.out | apply below_alloc | apply pw_below_drewN | apply below_drew1) | exact HB.out))) : w.heap.size ≤ gb149)); clear HB; have HB := n0_; have BK149 := n1_; have GW149 := n2_; have GE149 := n3_; clear n0_ n1_ n2_ n3_; clear hb hbox hg))
  go_loopg [5] k (fun kq v5 w' => ∃ (x5_1 : Int), v5 = .int .i64 x5_1 ∧ Aside0 (spec_JSAt.l0 kq a1 x5_1 a0_0 a0_1 a0_2 l0_3 l0_4 = some r) ∧ Aside0 (kq ≤ k) ∧ Aside0 (w'.heap[gb149]? = some (.cells #[.int .i64 a0_0, .int .i64 a0_1, .string a0_2, (.slice A0_3 l0_3.length c0_3), (.slice A0_4 l0_4.length c0_4)] 26 (0, 0))) ∧ Aside0 (Below w.heap.size w w'))
  case atStart => exact ⟨(0), (by first | rfl | (simp; done) | (simp [*]; done)), H', ⟨Nat.le_refl _⟩, ⟨by (with_reducible repeat (first | refine blk_drewN ?_ _ | refine blk_drew ?_ | refine blk_alloc ?_ _)); exact BK149.out⟩, ⟨by repeat (first | (with_reducible first | exact HB.out | apply below_alloc | apply pw_below_drewN | apply below_drew1 | refine below_set ?_ GE149.out) | exact HB.out)⟩⟩
  case round =>
    clear H'
    try clear c2
    try clear p2
    obtain ⟨x5_1, rfl, HA, HK1, BK149, HB⟩ := hrel
    cases gk with
    | zero => exact absurd HA.out (by simp [spec_JSAt.l0])
    | succ k1 =>
      have H := HA.out
      clear HA
      simp only [spec_JSAt.l0] at H
      by_cases c4 : x5_1 < (l0_3.length : Int)
      · rw [if_pos c4] at H
        have c4b0 : decide (x5_1 < (l0_3.length : Int)) = true := decide_eq_true c4
        clear c4
        by_cases c5 : 0 ≤ x5_1
        · rw [if_pos c5] at H
          have c5b0 : decide (0 ≤ x5_1) = true := decide_eq_true c5
          clear c5
          by_cases c6 : (rdOf ByteArray.empty l0_3 x5_1).toList = a1.toList
          · rw [if_pos c6] at H
            have c6b0 : ((rdOf ByteArray.empty l0_3 x5_1).toList == a1.toList) = true := beq_iff_eq.mpr c6
            have c6b1 : ((rdOf ByteArray.empty l0_3 x5_1).toList != a1.toList) = false := bne_eq_false_iff_eq.mpr c6
            clear c6
            obtain rfl := Option.some.inj H
            have hcz7_0 : wr.cell? ⟨gb149, 0, none⟩ = some (.int .i64 a0_0) := (blk_cell BK149.out 0).trans rfl
            have hcz7_1 : wr.cell? ⟨gb149, 1, none⟩ = some (.int .i64 a0_1) := (blk_cell BK149.out 1).trans rfl
            have hcz7_2 : wr.cell? ⟨gb149, 2, none⟩ = some (.string a0_2) := (blk_cell BK149.out 2).trans rfl
            have hcz7_3 : wr.cell? ⟨gb149, 3, none⟩ = some (.slice A0_3 l0_3.length c0_3) := (blk_cell BK149.out 3).trans rfl
            have hcz7_4 : wr.cell? ⟨gb149, 4, none⟩ = some (.slice A0_4 l0_4.length c0_4) := (blk_cell BK149.out 4).trans rfl
            have hfz7_0 := blk_frozen BK149.out 0
            have hfz7_1 := blk_frozen BK149.out 1
            have hfz7_2 := blk_frozen BK149.out 2
            have hfz7_3 := blk_frozen BK149.out 3
            have hfz7_4 := blk_frozen BK149.out 4
            have p150 : 0 ≤ (x5_1 : Int) := of_decide_eq_true (by first | (with_reducible assumption) | assumption)
            have q150 : x5_1 < (l0_3.length : Int) := of_decide_eq_true (by first | (with_reducible assumption) | assumption)
            obtain ⟨ad150, e150, hx150_0⟩ := Kd.at_string HR0_3.out x5_1 p150 q150
            cases e150
            replace hx150_0 := (HB.out.cell (World.block_lt_of_cell? w _ hx150_0)).trans hx150_0
            replace p150 := eq_true p150
            replace q150 := eq_true q150
            go_wp2
            go_ret
            exact ⟨by first | rfl | (simp [errW_none, errW_some] <;> rfl) | (simp [*, errW_none, errW_some] <;> rfl), by repeat (first | (with_reducible first | exact HB.out | apply below_alloc | apply pw_below_drewN | apply below_drew1 | refine below_set ?_ GE149.out) | exact HB.out)⟩
          · rw [if_neg c6] at H
            have c6b0 : ((rdOf ByteArray.empty l0_3 x5_1).toList == a1.toList) = false := beq_eq_false_iff_ne.mpr c6
            have c6b1 : ((rdOf ByteArray.empty l0_3 x5_1).toList != a1.toList) = true := bne_iff_ne.mpr c6
            have H' := Aside0.mk H
            clear H
            have hcz8_0 : wr.cell? ⟨gb149, 0, none⟩ = some (.int .i64 a0_0) := (blk_cell BK149.out 0).trans rfl
            have hcz8_1 : wr.cell? ⟨gb149, 1, none⟩ = some (.int .i64 a0_1) := (blk_cell BK149.out 1).trans rfl
            have hcz8_2 : wr.cell? ⟨gb149, 2, none⟩ = some (.string a0_2) := (blk_cell BK149.out 2).trans rfl
            have hcz8_3 : wr.cell? ⟨gb149, 3, none⟩ = some (.slice A0_3 l0_3.length c0_3) := (blk_cell BK149.out 3).trans rfl
            have hcz8_4 : wr.cell? ⟨gb149, 4, none⟩ = some (.slice A0_4 l0_4.length c0_4) := (blk_cell BK149.out 4).trans rfl
            have hfz8_0 := blk_frozen BK149.out 0
            have hfz8_1 := blk_frozen BK149.out 1
            have hfz8_2 := blk_frozen BK149.out 2
            have hfz8_3 := blk_frozen BK149.out 3
            have hfz8_4 := blk_frozen BK149.out 4
            have p150 : 0 ≤ (x5_1 : Int) := of_decide_eq_true (by first | (with_reducible assumption) | assumption)
            have q150 : x5_1 < (l0_3.length : Int) := of_decide_eq_true (by first | (with_reducible assumption) | assumption)
            obtain ⟨ad150, e150, hx150_0⟩ := Kd.at_string HR0_3.out x5_1 p150 q150
            cases e150
            replace hx150_0 := (HB.out.cell (World.block_lt_of_cell? w _ hx150_0)).trans hx150_0
            replace p150 := eq_true p150
            replace q150 := eq_true q150
            go_wp2
            go_roundg k1
            case measure => have := HK1.out; omega
            case rel => exact ⟨(wrap64 (x5_1 + 1)), (by first | rfl | (simp; done) | (simp [*]; done)), H', ⟨by have := HK1.out; omega⟩, ⟨by (with_reducible repeat (first | refine blk_drewN ?_ _ | refine blk_drew ?_ | refine blk_alloc ?_ _)); exact BK149.out⟩, ⟨by repeat (first | (with_reducible first | exact HB.out | apply below_alloc | apply pw_below_drewN | apply below_drew1 | refine below_set ?_ GE149.out) | exact HB.out)⟩⟩
        · rw [if_neg c5] at H
          exact absurd H (by simp)
      · rw [if_neg c4] at H
        have c4b0 : decide (x5_1 < (l0_3.length : Int)) = false := decide_eq_false c4
        clear c4
        obtain rfl := Option.some.inj H
        have hcz9_0 : wr.cell? ⟨gb149, 0, none⟩ = some (.int .i64 a0_0) := (blk_cell BK149.out 0).trans rfl
        have hcz9_1 : wr.cell? ⟨gb149, 1, none⟩ = some (.int .i64 a0_1) := (blk_cell BK149.out 1).trans rfl
        have hcz9_2 : wr.cell? ⟨gb149, 2, none⟩ = some (.string a0_2) := (blk_cell BK149.out 2).trans rfl
        have hcz9_3 : wr.cell? ⟨gb149, 3, none⟩ = some (.slice A0_3 l0_3.length c0_3) := (blk_cell BK149.out 3).trans rfl
        have hcz9_4 : wr.cell? ⟨gb149, 4, none⟩ = some (.slice A0_4 l0_4.length c0_4) := (blk_cell BK149.out 4).trans rfl
        have hfz9_0 := blk_frozen BK149.out 0
        have hfz9_1 := blk_frozen BK149.out 1
        have hfz9_2 := blk_frozen BK149.out 2
        have hfz9_3 := blk_frozen BK149.out 3
        have hfz9_4 := blk_frozen BK149.out 4
        go_wp2
        go_ret
        exact ⟨by first | rfl | (simp [errW_none, errW_some] <;> rfl) | (simp [*, errW_none, errW_some] <;> rfl), by repeat (first | (with_reducible first | exact HB.out | apply below_alloc | apply pw_below_drewN | apply below_drew1 | refine below_set ?_ GE149.out) | exact HB.out)⟩

end Go.Proofs.Ytlhaifbmacndeaa.PJS
