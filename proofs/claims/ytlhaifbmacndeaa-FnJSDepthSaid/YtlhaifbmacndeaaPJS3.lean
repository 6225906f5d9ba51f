-- written by gprint.py, a program of this claim's own, by means of the kit's print
import Derived.Test.YtlhaifbmacndeaaPJS0
import Derived.Test.YtlhaifbmacndeaaPJS2
import Derived.Test.YtlhaifbmacndeaaJSa
import Derived.Test.YtlhaifbmacndeaaJSd
namespace Go.Proofs.Ytlhaifbmacndeaa.PJS
open Go.RowKit Go.Proofs.YtlhaifbmacndeaaW.PrintWords Go.Proofs.YtlhaifbmacndeaaW.PrintLast Go.Proofs.YtlhaifbmacndeaaW.PrintMore
attribute [local go_sem] max2_int min2_int max_two min_two max_three min_three max_four min_four   -- for this text's walks alone
set_option linter.unusedVariables false
set_option linter.unusedSimpArgs false

/-! ### spec_JSDepth: function 8 -/
mutual
def spec_JSDepth.l0 : Nat → Int → Int → Int → Int → ByteArray → List ByteArray → List (S26) → Option (Int)
  | 0, _, _, _, _, _, _, _ => none
  | k + 1, x3, x4, x125000, x125001, x125002, x125003, x125004 => if x4 < (x125004.length : Int) then (if 0 ≤ x4 then ((spec_JSDepth.f k ((rd_T26 x125004 x4).f0) ((rd_T26 x125004 x4).f1) ((rd_T26 x125004 x4).f2) ((rd_T26 x125004 x4).f3) ((rd_T26 x125004 x4).f4)).bind fun t126 => (spec_JSDepth.l0 k (mx x3 t126) (wrap64 (x4 + 1)) x125000 x125001 x125002 x125003 x125004)) else (none)) else (some (wrap64 (x3 + 1)))
def spec_JSDepth.f : Nat → Int → Int → ByteArray → List ByteArray → List (S26) → Option (Int)
  | 0, _, _, _, _, _ => none
  | k + 1, a0_0, a0_1, a0_2, l0_3, l0_4 => spec_JSDepth.l0 k 0 0 a0_0 a0_1 a0_2 l0_3 l0_4
end
theorem spec_JSDepth.mono_l : ∀ k, (∀ y0 y1 y2 y3 y4, LeO (spec_JSDepth.f k y0 y1 y2 y3 y4) (spec_JSDepth.f (k + 1) y0 y1 y2 y3 y4)) ∧ (∀ y0 y1 y2 y3 y4 y5 y6, LeO (spec_JSDepth.l0 k y0 y1 y2 y3 y4 y5 y6) (spec_JSDepth.l0 (k + 1) y0 y1 y2 y3 y4 y5 y6))
  | 0 => ⟨fun _ _ _ _ _ r h => by simp [spec_JSDepth.f] at h, fun _ _ _ _ _ _ _ r h => by simp [spec_JSDepth.l0] at h⟩
  | k + 1 => by
    obtain ⟨ih0, ih1⟩ := spec_JSDepth.mono_l k
    refine ⟨?_, ?_⟩
    · intro y0 y1 y2 y3 y4
      unfold spec_JSDepth.f
      repeat' first
      | (with_reducible exact ih0 _ _ _ _ _)
      | (with_reducible exact ih1 _ _ _ _ _ _ _)
      | (with_reducible exact LeO.refl _)
      | (with_reducible exact LeO.none _)
      | (with_reducible refine LeO.ite ?_ ?_)
      | (with_reducible refine LeO.bind ?_ (fun _ => ?_))
      | exact ih0 _ _ _ _ _
      | exact ih1 _ _ _ _ _ _ _
      | exact LeO.none _
      | refine LeO.ite ?_ ?_
      | refine LeO.bind ?_ (fun _ => ?_)
    · intro y0 y1 y2 y3 y4 y5 y6
      unfold spec_JSDepth.l0
      repeat' first
      | (with_reducible exact ih0 _ _ _ _ _)
      | (with_reducible exact ih1 _ _ _ _ _ _ _)
      | (with_reducible exact LeO.refl _)
      | (with_reducible exact LeO.none _)
      | (with_reducible refine LeO.ite ?_ ?_)
      | (with_reducible refine LeO.bind ?_ (fun _ => ?_))
      | exact ih0 _ _ _ _ _
      | exact ih1 _ _ _ _ _ _ _
      | exact LeO.none _
      | refine LeO.ite ?_ ?_
      | refine LeO.bind ?_ (fun _ => ?_)
theorem spec_JSDepth.mono : ∀ a0 a1 a2 a3 a4 k, LeO (spec_JSDepth.f k a0 a1 a2 a3 a4) (spec_JSDepth.f (k + 1) a0 a1 a2 a3 a4) := by
  intro a0 a1 a2 a3 a4 k
  obtain ⟨ih0, ih1⟩ := spec_JSDepth.mono_l k
  exact ih0 a0 a1 a2 a3 a4
set_option maxHeartbeats 8000000 in
set_option maxRecDepth 100000 in
theorem spec_JSDepth.calls (k : Nat) : ∀ (a0_0 : Int) (a0_1 : Int) (a0_2 : ByteArray) (A0_3 : Option Addr) (c0_3 : Nat) (l0_3 : List ByteArray) (A0_4 : Option Addr) (c0_4 : Nat) (l0_4 : List (S26)) (r : Int) (w : World) (hr0_3 : Kd.C Kd.string w A0_3 l0_3.length l0_3) (hc0_3 : l0_3.length ≤ c0_3) (hr0_4 : Kd.C k26 w A0_4 l0_4.length l0_4) (hc0_4 : l0_4.length ≤ c0_4) (h : spec_JSDepth.f k a0_0 a0_1 a0_2 l0_3 l0_4 = some r),
    Calls Try.prog 8 #[.agg #[.int .i64 a0_0, .int .i64 a0_1, .string a0_2, .slice A0_3 l0_3.length c0_3, .slice A0_4 l0_4.length c0_4]] w fun e w' => e = .returned (.int .i64 r) ∧ Below w.heap.size w w' := by
  induction k using Nat.strongRecOn with
  | _ k ih =>
  intro a0_0 a0_1 a0_2 A0_3 c0_3 l0_3 A0_4 c0_4 l0_4 r w hr0_3 hc0_3 hr0_4 hc0_4 h
  cases k with
  | zero => exact absurd h (by simp [spec_JSDepth.f])
  | succ k =>
  simp only [spec_JSDepth.f] at h
  have hu26 := Try.underlying26
  have HR0_3 := Aside0.mk hr0_3
  have HC0_3 := Aside0.mk hc0_3
  clear hr0_3 hc0_3
  have HR0_4 := Aside0.mk hr0_4
  have HC0_4 := Aside0.mk hc0_4
  clear hr0_4 hc0_4
  have HB := Aside0.mk (Below.refl w.heap.size w)
  have H : (spec_JSDepth.l0 k 0 0 a0_0 a0_1 a0_2 l0_3 l0_4) = some r := h
  clear h
  have H' := Aside0.mk H
  clear H
  go_enter Try.func8, Try.ntmps8
  go_wp2_with (first | ((with_reducible refine gate_dst (N := 1) rfl ?_); refine box_event ?hg (N := 1) ?hd (cs := #[.int .i64 a0_0, .int .i64 a0_1, .string a0_2, .slice A0_3 l0_3.length c0_3, .slice A0_4 l0_4.length c0_4]) (t := 26) ?hr ?_; (case hd => rfl); (case hg => rfl); (case hr => first | (go_simp; done) | (go_simp; rfl)); intro gb124 hg w2 hbox hb; have n0_ := Aside0.mk (below_step (by repeat (first | (with_reducible first | exact HB.out | apply below_alloc | apply pw_below_drewN | apply below_drew1) | exact HB.out)) hb); have n1_ := Aside0.mk (hbox); have n2_ := Aside0.mk ((by rw [hg]; exact (below_size (by repeat (first | (with_reducible first | exact HB.out | apply below_alloc | apply pw_below_drewN | apply below_drew1) | exact HB.out))) : w.heap.size ≤ gb124)); have n3_ := Aside0.mk ((by rw [hg]; exact (below_size (by repeat (first | (with_reducible first | exact HB.out | apply below_alloc | apply pw_below_drewN | apply below_drew1) | exact HB.out))) : w.heap.size ≤ gb124)); clear HB; have HB := n0_; have BK124 := n1_; have GW124 := n2_; have GE124 := n3_; clear n0_ n1_ n2_ n3_; clear hb hbox hg))
  go_loopg [3, 4] k (fun kq v3 v4 w' => ∃ (x3_1 : Int) (x4_1 : Int), v3 = .int .i64 x3_1 ∧ v4 = .int .i64 x4_1 ∧ Aside0 (spec_JSDepth.l0 kq x3_1 x4_1 a0_0 a0_1 a0_2 l0_3 l0_4 = some r) ∧ Aside0 (kq ≤ k) ∧ Aside0 (w'.heap[gb124]? = some (.cells #[.int .i64 a0_0, .int .i64 a0_1, .string a0_2, (.slice A0_3 l0_3.length c0_3), (.slice A0_4 l0_4.length c0_4)] 26 (0, 0))) ∧ Aside0 (Below w.heap.size w w'))
  case atStart => exact ⟨(0), (0), (by first | rfl | (simp; done) | (simp [*]; done)), (by first | rfl | (simp; done) | (simp [*]; done)), H', ⟨Nat.le_refl _⟩, ⟨by (with_reducible repeat (first | refine blk_drewN ?_ _ | refine blk_drew ?_ | refine blk_alloc ?_ _)); exact BK124.out⟩, ⟨by repeat (first | (with_reducible first | exact HB.out | apply below_alloc | apply pw_below_drewN | apply below_drew1 | refine below_set ?_ GE124.out) | exact HB.out)⟩⟩
  case round =>
    clear H'
    try clear p2
    obtain ⟨x3_1, x4_1, rfl, rfl, HA, HK1, BK124, HB⟩ := hrel
    cases gk with
    | zero => exact absurd HA.out (by simp [spec_JSDepth.l0])
    | succ k1 =>
      have H := HA.out
      clear HA
      simp only [spec_JSDepth.l0] at H
      by_cases c3 : x4_1 < (l0_4.length : Int)
      · rw [if_pos c3] at H
        have c3b0 : decide (x4_1 < (l0_4.length : Int)) = true := decide_eq_true c3
        clear c3
        by_cases c4 : 0 ≤ x4_1
        · rw [if_pos c4] at H
          have c4b0 : decide (0 ≤ x4_1) = true := decide_eq_true c4
          clear c4
          replace H := Option.bind_eq_some_iff.mp H
          obtain ⟨t126, A50, H⟩ := H
          replace H : (spec_JSDepth.l0 k1 (mx x3_1 t126) (wrap64 (x4_1 + 1)) a0_0 a0_1 a0_2 l0_3 l0_4) = some r := H
          have A5 := Aside0.mk A50
          clear A50
          obtain ⟨ji6, hji6⟩ : ∃ j_ : Int, (mx x3_1 t126) = j_ := ⟨_, rfl⟩
          replace H : (spec_JSDepth.l0 k1 ji6 (wrap64 (x4_1 + 1)) a0_0 a0_1 a0_2 l0_3 l0_4) = some r := by first | (rw [hji6] at H; exact H) | (simp only [hji6] at H ⊢; exact H)
          (try rw [hji6] at A5)
          have hji6_ : (if x3_1 < t126 then t126 else x3_1) = ji6 := hji6
          have H' := Aside0.mk H
          clear H
          have hcz7_0 : wr.cell? ⟨gb124, 0, none⟩ = some (.int .i64 a0_0) := (blk_cell BK124.out 0).trans rfl
          have hcz7_1 : wr.cell? ⟨gb124, 1, none⟩ = some (.int .i64 a0_1) := (blk_cell BK124.out 1).trans rfl
          have hcz7_2 : wr.cell? ⟨gb124, 2, none⟩ = some (.string a0_2) := (blk_cell BK124.out 2).trans rfl
          have hcz7_3 : wr.cell? ⟨gb124, 3, none⟩ = some (.slice A0_3 l0_3.length c0_3) := (blk_cell BK124.out 3).trans rfl
          have hcz7_4 : wr.cell? ⟨gb124, 4, none⟩ = some (.slice A0_4 l0_4.length c0_4) := (blk_cell BK124.out 4).trans rfl
          have hfz7_0 := blk_frozen BK124.out 0
          have hfz7_1 := blk_frozen BK124.out 1
          have hfz7_2 := blk_frozen BK124.out 2
          have hfz7_3 := blk_frozen BK124.out 3
          have hfz7_4 := blk_frozen BK124.out 4
          have p125 : 0 ≤ (x4_1 : Int) := of_decide_eq_true (by first | (with_reducible assumption) | assumption)
          have q125 : x4_1 < (l0_4.length : Int) := of_decide_eq_true (by first | (with_reducible assumption) | assumption)
          obtain ⟨ad125, A125_3, c125_3, A125_4, c125_4, e125, hx125_0, hx125_1, hx125_2, hx125_3, hx125_4, hl125_3, hi125_3, hl125_4, hi125_4⟩ := at_T26 HR0_4.out x4_1 p125 q125
          cases e125
          replace hx125_0 := (HB.out.cell (World.block_lt_of_cell? w _ hx125_0)).trans hx125_0
          replace hx125_1 := (HB.out.cell (World.block_lt_of_cell? w _ hx125_1)).trans hx125_1
          replace hx125_2 := (HB.out.cell (World.block_lt_of_cell? w _ hx125_2)).trans hx125_2
          replace hx125_3 := (HB.out.cell (World.block_lt_of_cell? w _ hx125_3)).trans hx125_3
          replace hx125_4 := (HB.out.cell (World.block_lt_of_cell? w _ hx125_4)).trans hx125_4
          have HR125_3 := Aside0.mk hi125_3
          have HC125_3 := Aside0.mk hl125_3
          clear hi125_3 hl125_3
          have HR125_4 := Aside0.mk hi125_4
          have HC125_4 := Aside0.mk hl125_4
          clear hi125_4 hl125_4
          replace p125 := eq_true p125
          replace q125 := eq_true q125
          go_wp2_with (first | ((with_reducible refine gate_callee (f := 8) rfl ?_); refine goesL_ (some 18) rfl rfl Try.func8 (by kernel_rfl) rfl #[.agg #[.int .i64 ((rd_T26 l0_4 x4_1).f0), .int .i64 ((rd_T26 l0_4 x4_1).f1), .string ((rd_T26 l0_4 x4_1).f2), .slice A125_3 ((rd_T26 l0_4 x4_1).f3).length c125_3, .slice A125_4 ((rd_T26 l0_4 x4_1).f4).length c125_4]] rfl (by (try simp only [List.map_toArray, List.map_cons, List.map_nil]); first | done | rfl | (simp only [List.length_drop, List.length_take]; rfl)) ?_; (with_reducible refine (ih k1 (by have := HK1.out; omega) ((rd_T26 l0_4 x4_1).f0) ((rd_T26 l0_4 x4_1).f1) ((rd_T26 l0_4 x4_1).f2) _ _ ((rd_T26 l0_4 x4_1).f3) _ _ ((rd_T26 l0_4 x4_1).f4) t126 _ ?side1 ?side2 ?side3 ?side4 A5.out).mono ?_); (case side1 => repeat (first | exact (Kd.C_below HR125_3.out HB.out) | (with_reducible refine Kd.C_alloc ?_ _) | (with_reducible refine Kd.C_drewN ?_ _) | (with_reducible refine Kd.C_drew ?_))); (case side2 => exact HC125_3.out); (case side3 => repeat (first | exact (Kd.C_below HR125_4.out HB.out) | (with_reducible refine Kd.C_alloc ?_ _) | (with_reducible refine Kd.C_drewN ?_ _) | (with_reducible refine Kd.C_drew ?_))); (case side4 => exact HC125_4.out); rintro e w8 ⟨rfl, hb⟩; refine ⟨_, rfl, ?_⟩; have n0_ := Aside0.mk (blk_below (g := gb124) (o := .cells #[.int .i64 a0_0, .int .i64 a0_1, .string a0_2, .slice A0_3 l0_3.length c0_3, .slice (some ad125) l0_4.length c0_4] 26 (0, 0)) (by (with_reducible repeat (first | refine blk_drewN ?_ _ | refine blk_drew ?_ | refine blk_alloc ?_ _)); exact BK124.out) hb); have n1_ := Aside0.mk (below_step (by repeat (first | (with_reducible first | exact HB.out | apply below_alloc | apply pw_below_drewN | apply below_drew1 | refine below_set ?_ GE124.out) | exact HB.out)) hb); clear BK124; clear HB; have BK124 := n0_; have HB := n1_; clear n0_ n1_; (try clear hb); (try clear hb2); (try clear hk); (try clear hi)))
          go_roundg k1
          case measure => have := HK1.out; omega
          case rel => exact ⟨(ji6), (wrap64 (x4_1 + 1)), (by first | rfl | (simp; done) | (simp only [← hji6] <;> (first | rfl | simp)) | (simp [*]; done)), (by first | rfl | (simp; done) | (simp [*]; done)), H', ⟨by have := HK1.out; omega⟩, ⟨by (with_reducible repeat (first | refine blk_drewN ?_ _ | refine blk_drew ?_ | refine blk_alloc ?_ _)); exact BK124.out⟩, ⟨by repeat (first | (with_reducible first | exact HB.out | apply below_alloc | apply pw_below_drewN | apply below_drew1 | refine below_set ?_ GE124.out) | exact HB.out)⟩⟩
        · rw [if_neg c4] at H
          exact absurd H (by simp)
      · rw [if_neg c3] at H
        have c3b0 : decide (x4_1 < (l0_4.length : Int)) = false := decide_eq_false c3
        clear c3
        obtain rfl := Option.some.inj H
        have hcz9_0 : wr.cell? ⟨gb124, 0, none⟩ = some (.int .i64 a0_0) := (blk_cell BK124.out 0).trans rfl
        have hcz9_1 : wr.cell? ⟨gb124, 1, none⟩ = some (.int .i64 a0_1) := (blk_cell BK124.out 1).trans rfl
        have hcz9_2 : wr.cell? ⟨gb124, 2, none⟩ = some (.string a0_2) := (blk_cell BK124.out 2).trans rfl
        have hcz9_3 : wr.cell? ⟨gb124, 3, none⟩ = some (.slice A0_3 l0_3.length c0_3) := (blk_cell BK124.out 3).trans rfl
        have hcz9_4 : wr.cell? ⟨gb124, 4, none⟩ = some (.slice A0_4 l0_4.length c0_4) := (blk_cell BK124.out 4).trans rfl
        have hfz9_0 := blk_frozen BK124.out 0
        have hfz9_1 := blk_frozen BK124.out 1
        have hfz9_2 := blk_frozen BK124.out 2
        have hfz9_3 := blk_frozen BK124.out 3
        have hfz9_4 := blk_frozen BK124.out 4
        go_wp2
        go_ret
        exact ⟨by first | rfl | (simp [errW_none, errW_some] <;> rfl) | (simp [*, errW_none, errW_some] <;> rfl), by repeat (first | (with_reducible first | exact HB.out | apply below_alloc | apply pw_below_drewN | apply below_drew1 | refine below_set ?_ GE124.out) | exact HB.out)⟩

/-! ### laws_FnJSDepth: function 3 -/
noncomputable def laws_FnJSDepth.f (k : Nat) (l0 : List Int) : Option (Bool) := if (l0.length : Int) > 2147483647 then (some true) else ((laws_jsOf.f l0).bind fun bt127 => ((laws_jsIn.f k bt127.1 bt127.2.1 bt127.2.2.1 bt127.2.2.2.1 bt127.2.2.2.2).bind fun bt137 => ((impl_JSDepth.f bt137.1 bt137.2.1 bt137.2.2.1 bt137.2.2.2.1 bt137.2.2.2.2).bind fun bt146 => (if bt146.2 = true then ((spec_JSDepth.f k bt127.1 bt127.2.1 bt127.2.2.1 bt127.2.2.2.1 bt127.2.2.2.2).bind fun t148 => (some (bt146.1 == t148))) else (some false)))))
theorem laws_FnJSDepth.mono : ∀ a0 k, LeO (laws_FnJSDepth.f k a0) (laws_FnJSDepth.f (k + 1) a0) := by
  intro a0 k
  unfold laws_FnJSDepth.f
  repeat' first
      | (with_reducible exact laws_jsIn.mono _ _ _ _ _ _)
      | (with_reducible exact spec_JSDepth.mono _ _ _ _ _ _)
      | (with_reducible exact LeO.refl _)
      | (with_reducible exact LeO.none _)
      | (with_reducible refine LeO.ite ?_ ?_)
      | (with_reducible refine LeO.bind ?_ (fun _ => ?_))
      | exact laws_jsIn.mono _ _ _ _ _ _
      | exact spec_JSDepth.mono _ _ _ _ _ _
      | exact LeO.none _
      | refine LeO.ite ?_ ?_
      | refine LeO.bind ?_ (fun _ => ?_)
set_option maxHeartbeats 8000000 in
set_option maxRecDepth 100000 in
theorem laws_FnJSDepth.calls (k : Nat) (A0 : Option Addr) (c0 : Nat) (l0 : List Int) (r : Bool) (w : World) (hr0 : Kd.C (Kd.int .u8) w A0 l0.length l0) (hc0 : l0.length ≤ c0) (h : laws_FnJSDepth.f k l0 = some r) :
    Calls Try.prog 3 #[.slice A0 l0.length c0] w fun e w' => e = .returned (.bool r) ∧ Below w.heap.size w w' := by
  have hu26 := Try.underlying26
  have HR0 := Aside0.mk hr0
  have HC0 := Aside0.mk hc0
  clear hr0 hc0
  have HB := Aside0.mk (Below.refl w.heap.size w)
  have H : (if (l0.length : Int) > 2147483647 then (some true) else ((laws_jsOf.f l0).bind fun bt127 => ((laws_jsIn.f k bt127.1 bt127.2.1 bt127.2.2.1 bt127.2.2.2.1 bt127.2.2.2.2).bind fun bt137 => ((impl_JSDepth.f bt137.1 bt137.2.1 bt137.2.2.1 bt137.2.2.2.1 bt137.2.2.2.2).bind fun bt146 => (if bt146.2 = true then ((spec_JSDepth.f k bt127.1 bt127.2.1 bt127.2.2.1 bt127.2.2.2.1 bt127.2.2.2.2).bind fun t148 => (some (bt146.1 == t148))) else (some false)))))) = some r := h
  clear h
  by_cases c2 : (l0.length : Int) > 2147483647
  · rw [if_pos c2] at H
    have c2b0 : decide (2147483647 < (l0.length : Int)) = true := decide_eq_true c2
    have c2b1 : decide (2147483647 < l0.length) = true := decide_eq_true (by omega)
    clear c2
    obtain rfl := Option.some.inj H
    go_enter Try.func3, Try.ntmps3
    go_wp2
    go_ret
    exact ⟨by first | rfl | (simp [errW_none, errW_some] <;> rfl) | (simp [*, errW_none, errW_some] <;> rfl), by repeat (first | (with_reducible first | exact HB.out | apply below_alloc | apply pw_below_drewN | apply below_drew1) | exact HB.out)⟩
  · rw [if_neg c2] at H
    have c2b0 : decide (2147483647 < (l0.length : Int)) = false := decide_eq_false c2
    have c2b1 : decide (2147483647 < l0.length) = false := decide_eq_false (by omega)
    clear c2
    replace H := Option.bind_eq_some_iff.mp H
    obtain ⟨⟨t127, t128, t129, t130, t133⟩, A30, H⟩ := H
    replace H : ((laws_jsIn.f k t127 t128 t129 t130 t133).bind fun bt137 => ((impl_JSDepth.f bt137.1 bt137.2.1 bt137.2.2.1 bt137.2.2.2.1 bt137.2.2.2.2).bind fun bt146 => (if bt146.2 = true then ((spec_JSDepth.f k t127 t128 t129 t130 t133).bind fun t148 => (some (bt146.1 == t148))) else (some false)))) = some r := H
    have A3 := Aside0.mk A30
    clear A30
    replace H := Option.bind_eq_some_iff.mp H
    obtain ⟨⟨t137, t138, t139, t140, t143⟩, A40, H⟩ := H
    replace H : ((impl_JSDepth.f t137 t138 t139 t140 t143).bind fun bt146 => (if bt146.2 = true then ((spec_JSDepth.f k t127 t128 t129 t130 t133).bind fun t148 => (some (bt146.1 == t148))) else (some false))) = some r := H
    have A4 := Aside0.mk A40
    clear A40
    replace H := Option.bind_eq_some_iff.mp H
    obtain ⟨⟨t146, t147⟩, A50, H⟩ := H
    replace H : (if t147 = true then ((spec_JSDepth.f k t127 t128 t129 t130 t133).bind fun t148 => (some (t146 == t148))) else (some false)) = some r := H
    have A5 := Aside0.mk A50
    clear A50
    by_cases c6 : t147 = true
    · subst c6
      have H1 : ((spec_JSDepth.f k t127 t128 t129 t130 t133).bind fun t148 => (some (t146 == t148))) = some r := by rw [if_pos rfl] at H; exact H
      clear H
      have H := H1
      clear H1
      replace H := Option.bind_eq_some_iff.mp H
      obtain ⟨t148, A70, H⟩ := H
      replace H : (some (t146 == t148)) = some r := H
      have A7 := Aside0.mk A70
      clear A70
      obtain rfl := Option.some.inj H
      go_enter Try.func3, Try.ntmps3
      go_wp2_with (first | ((with_reducible refine gate_callee (f := 5) rfl ?_); refine goesL_ (some 10) rfl rfl Try.func5 (by kernel_rfl) rfl #[.slice A0 l0.length c0] rfl (by (try simp only [List.map_toArray, List.map_cons, List.map_nil]); first | done | rfl | (simp only [List.length_drop, List.length_take]; rfl)) ?_; (with_reducible refine (laws_jsOf.calls _ _ l0 t127 t128 t129 t130 t133 _ ?side1 ?side2 A3.out).mono ?_); (case side1 => repeat (first | exact HR0.out | (with_reducible refine Kd.C_alloc ?_ _) | (with_reducible refine Kd.C_drewN ?_ _) | (with_reducible refine Kd.C_drew ?_))); (case side2 => exact HC0.out); rintro e w8 ⟨v131, v134, rfl, ho0, ho1, hb⟩; refine ⟨_, rfl, ?_⟩; have n0_ := Aside0.mk (Kd.R_lower ho0 (below_size (by repeat (first | (with_reducible first | exact HB.out | apply below_alloc | apply pw_below_drewN | apply below_drew1) | exact HB.out)))); have n1_ := Aside0.mk (Kd.R_lower ho1 (below_size (by repeat (first | (with_reducible first | exact HB.out | apply below_alloc | apply pw_below_drewN | apply below_drew1) | exact HB.out)))); have n2_ := Aside0.mk (below_step (by repeat (first | (with_reducible first | exact HB.out | apply below_alloc | apply pw_below_drewN | apply below_drew1) | exact HB.out)) hb); clear HB; have HO132 := n0_; have HO135 := n1_; have HB := n2_; clear n0_ n1_ n2_; (try clear hb); (try clear hb2); (try clear hk); (try clear hi); (try clear ho0); (try clear ho1)) | ((with_reducible refine gate_dst (N := 3) rfl ?_); refine box_event ?hg (N := 3) ?hd (cs := #[.int .i64 0, .int .i64 0, .string (⟨#[]⟩ : ByteArray), .slice none 0 0, .slice none 0 0]) (t := 26) ?hr ?_; (case hd => rfl); (case hg => rfl); (case hr => first | (go_simp; done) | (go_simp; rfl)); intro gb136 hg w9 hbox hb; have n0_ := Aside0.mk (Kd.R_below (by (with_reducible repeat (first | apply Kd.R_alloc | apply Kd.R_drewN | apply Kd.R_drew)); exact HO132.out) hb); have n1_ := Aside0.mk (Kd.R_below (Kd.R_elderB (by (with_reducible repeat (first | apply Kd.R_alloc | apply Kd.R_drewN | apply Kd.R_drew)); exact HO135.out) gb136 (Nat.le_of_eq hg.symm)) hb); have n2_ := Aside0.mk (below_step (by repeat (first | (with_reducible first | exact HB.out | apply below_alloc | apply pw_below_drewN | apply below_drew1) | exact HB.out)) hb); have n3_ := Aside0.mk (hbox); have n4_ := Aside0.mk ((by rw [hg]; exact (below_size (by repeat (first | (with_reducible first | exact HB.out | apply below_alloc | apply pw_below_drewN | apply below_drew1) | exact HB.out))) : w.heap.size ≤ gb136)); have n5_ := Aside0.mk ((by rw [hg]; exact (below_size (by repeat (first | (with_reducible first | exact HB.out | apply below_alloc | apply pw_below_drewN | apply below_drew1) | exact HB.out))) : w.heap.size ≤ gb136)); clear HO132; clear HO135; clear HB; have HO132 := n0_; have HO135 := n1_; have HB := n2_; have BK136 := n3_; have GW136 := n4_; have GE136 := n5_; clear n0_ n1_ n2_ n3_ n4_ n5_; clear hb hbox hg; have hcz10_0 : w9.cell? ⟨gb136, 0, none⟩ = some (.int .i64 0) := (blk_cell BK136.out 0).trans rfl; have hcz10_1 : w9.cell? ⟨gb136, 1, none⟩ = some (.int .i64 0) := (blk_cell BK136.out 1).trans rfl; have hcz10_2 : w9.cell? ⟨gb136, 2, none⟩ = some (.string (⟨#[]⟩ : ByteArray)) := (blk_cell BK136.out 2).trans rfl; have hcz10_3 : w9.cell? ⟨gb136, 3, none⟩ = some (.slice none 0 0) := (blk_cell BK136.out 3).trans rfl; have hcz10_4 : w9.cell? ⟨gb136, 4, none⟩ = some (.slice none 0 0) := (blk_cell BK136.out 4).trans rfl; have hfz10_0 := blk_frozen BK136.out 0; have hfz10_1 := blk_frozen BK136.out 1; have hfz10_2 := blk_frozen BK136.out 2; have hfz10_3 := blk_frozen BK136.out 3; have hfz10_4 := blk_frozen BK136.out 4; obtain ⟨Ao11, co11, eo11⟩ := Kd.R_slice HO132.out; subst eo11; obtain ⟨Ao12, co12, eo12⟩ := Kd.R_slice HO135.out; subst eo12) | ((with_reducible refine gate_callee (f := 7) rfl ?_); refine goesL_ (some 13) rfl rfl Try.func7 (by kernel_rfl) rfl #[.agg #[.int .i64 t127, .int .i64 t128, .string t129, .slice Ao11 t130.length co11, .slice Ao12 t133.length co12]] rfl (by (try simp only [List.map_toArray, List.map_cons, List.map_nil]); first | done | rfl | (simp only [List.length_drop, List.length_take]; rfl)) ?_; (with_reducible refine (laws_jsIn.calls k t127 t128 t129 _ _ t130 _ _ t133 t137 t138 t139 t140 t143 _ ?side1 ?side2 ?side3 ?side4 A4.out).mono ?_); (case side1 => refine (Kd.R_reads' (e := 9) (base := w.heap.size) (ok := fun k_ => True) (n := t130.length) (c := co11) ?_).2.2; exact (by (with_reducible repeat (first | apply Kd.R_alloc | apply Kd.R_drewN | apply Kd.R_drew)); exact (Kd.R_mono (Kd.R_far (p := ⟨gb136, 4, none⟩) (Kd.R_far (p := ⟨gb136, 3, none⟩) (Kd.R_far (p := ⟨gb136, 2, none⟩) (Kd.R_far (p := ⟨gb136, 1, none⟩) (Kd.R_far (p := ⟨gb136, 0, none⟩) (Kd.R_types HO132.out BK136.out (by decide)) (fun _ hk => hk.2) (.int .i64 t127)) (fun _ hk => hk.2) (.int .i64 t128)) (fun _ hk => hk.2) (.string t129)) (fun _ hk => hk.2) (.slice Ao11 t130.length co11)) (fun _ hk => hk.2) (.slice Ao12 t133.length co12)) (fun _ h_ => h_.1)))); (case side2 => exact (Kd.R_reads' HO132.out).2.1); (case side3 => refine (Kd.R_reads' (e := 26) (base := w.heap.size) (ok := fun k_ => (some k_ ≠ (.slice Ao11 t130.length co11 : Value).ownBlock ∧ k_ ≠ gb136)) (n := t133.length) (c := co12) ?_).2.2; exact (by (with_reducible repeat (first | apply Kd.R_alloc | apply Kd.R_drewN | apply Kd.R_drew)); exact (Kd.R_mono (Kd.R_far (p := ⟨gb136, 4, none⟩) (Kd.R_far (p := ⟨gb136, 3, none⟩) (Kd.R_far (p := ⟨gb136, 2, none⟩) (Kd.R_far (p := ⟨gb136, 1, none⟩) (Kd.R_far (p := ⟨gb136, 0, none⟩) (Kd.R_mono HO135.out (fun k_ hk => (⟨hk, hk.2⟩ : _ ∧ k_ ≠ gb136))) (fun _ hk => hk.2) (.int .i64 t127)) (fun _ hk => hk.2) (.int .i64 t128)) (fun _ hk => hk.2) (.string t129)) (fun _ hk => hk.2) (.slice Ao11 t130.length co11)) (fun _ hk => hk.2) (.slice Ao12 t133.length co12)) (fun _ h_ => h_.1)))); (case side4 => exact (Kd.R_reads' HO135.out).2.1); rintro e w13 ⟨v141, v144, rfl, ho0, ho1, hb⟩; refine ⟨_, rfl, ?_⟩; have n0_ := Aside0.mk (Kd.R_elder' (by (with_reducible repeat (first | apply Kd.R_alloc | apply Kd.R_drewN | apply Kd.R_drew)); exact (Kd.R_mono (Kd.R_far (p := ⟨gb136, 4, none⟩) (Kd.R_far (p := ⟨gb136, 3, none⟩) (Kd.R_far (p := ⟨gb136, 2, none⟩) (Kd.R_far (p := ⟨gb136, 1, none⟩) (Kd.R_far (p := ⟨gb136, 0, none⟩) (Kd.R_types HO132.out BK136.out (by decide)) (fun _ hk => hk.2) (.int .i64 t127)) (fun _ hk => hk.2) (.int .i64 t128)) (fun _ hk => hk.2) (.string t129)) (fun _ hk => hk.2) (.slice Ao11 t130.length co11)) (fun _ hk => hk.2) (.slice Ao12 t133.length co12)) (fun _ h_ => h_.1))) (Kd.R_base ho0) hb); have n1_ := Aside0.mk (Kd.R_elder' (by (with_reducible repeat (first | apply Kd.R_alloc | apply Kd.R_drewN | apply Kd.R_drew)); exact (Kd.R_mono (Kd.R_far (p := ⟨gb136, 4, none⟩) (Kd.R_far (p := ⟨gb136, 3, none⟩) (Kd.R_far (p := ⟨gb136, 2, none⟩) (Kd.R_far (p := ⟨gb136, 1, none⟩) (Kd.R_far (p := ⟨gb136, 0, none⟩) (Kd.R_mono HO135.out (fun k_ hk => (⟨hk, hk.2⟩ : _ ∧ k_ ≠ gb136))) (fun _ hk => hk.2) (.int .i64 t127)) (fun _ hk => hk.2) (.int .i64 t128)) (fun _ hk => hk.2) (.string t129)) (fun _ hk => hk.2) (.slice Ao11 t130.length co11)) (fun _ hk => hk.2) (.slice Ao12 t133.length co12)) (fun _ h_ => h_.1))) (Kd.R_base ho0) hb); have n2_ := Aside0.mk (Kd.R_lower (Kd.R_new' ho0 (Kd.R_lt (by (with_reducible repeat (first | apply Kd.R_alloc | apply Kd.R_drewN | apply Kd.R_drew)); exact (Kd.R_mono (Kd.R_far (p := ⟨gb136, 4, none⟩) (Kd.R_far (p := ⟨gb136, 3, none⟩) (Kd.R_far (p := ⟨gb136, 2, none⟩) (Kd.R_far (p := ⟨gb136, 1, none⟩) (Kd.R_far (p := ⟨gb136, 0, none⟩) (Kd.R_types HO132.out BK136.out (by decide)) (fun _ hk => hk.2) (.int .i64 t127)) (fun _ hk => hk.2) (.int .i64 t128)) (fun _ hk => hk.2) (.string t129)) (fun _ hk => hk.2) (.slice Ao11 t130.length co11)) (fun _ hk => hk.2) (.slice Ao12 t133.length co12)) (fun _ h_ => h_.1))))) (below_size (by repeat (first | (with_reducible first | exact HB.out | apply below_alloc | apply pw_below_drewN | apply below_drew1 | refine below_set ?_ GE136.out) | exact HB.out)))); have n3_ := Aside0.mk (Kd.R_lower (Kd.R_new' ho1 (Kd.R_lt (by (with_reducible repeat (first | apply Kd.R_alloc | apply Kd.R_drewN | apply Kd.R_drew)); exact (Kd.R_mono (Kd.R_far (p := ⟨gb136, 4, none⟩) (Kd.R_far (p := ⟨gb136, 3, none⟩) (Kd.R_far (p := ⟨gb136, 2, none⟩) (Kd.R_far (p := ⟨gb136, 1, none⟩) (Kd.R_far (p := ⟨gb136, 0, none⟩) (Kd.R_types HO132.out BK136.out (by decide)) (fun _ hk => hk.2) (.int .i64 t127)) (fun _ hk => hk.2) (.int .i64 t128)) (fun _ hk => hk.2) (.string t129)) (fun _ hk => hk.2) (.slice Ao11 t130.length co11)) (fun _ hk => hk.2) (.slice Ao12 t133.length co12)) (fun _ h_ => h_.1))))) (below_size (by repeat (first | (with_reducible first | exact HB.out | apply below_alloc | apply pw_below_drewN | apply below_drew1 | refine below_set ?_ GE136.out) | exact HB.out)))); have n4_ := Aside0.mk (blk_below (g := gb136) (o := .cells #[.int .i64 t127, .int .i64 t128, .string t129, .slice Ao11 t130.length co11, .slice Ao12 t133.length co12] 26 (0, 0)) (by (with_reducible repeat (first | refine blk_drewN ?_ _ | refine blk_drew ?_ | refine blk_alloc ?_ _)); refine blk_put (cs := #[.int .i64 t127, .int .i64 t128, .string t129, .slice Ao11 t130.length co11, .slice none 0 0]) ?_ 4 _ rfl; (with_reducible repeat (first | refine blk_drewN ?_ _ | refine blk_drew ?_ | refine blk_alloc ?_ _)); refine blk_put (cs := #[.int .i64 t127, .int .i64 t128, .string t129, .slice none 0 0, .slice none 0 0]) ?_ 3 _ rfl; (with_reducible repeat (first | refine blk_drewN ?_ _ | refine blk_drew ?_ | refine blk_alloc ?_ _)); refine blk_put (cs := #[.int .i64 t127, .int .i64 t128, .string (⟨#[]⟩ : ByteArray), .slice none 0 0, .slice none 0 0]) ?_ 2 _ rfl; (with_reducible repeat (first | refine blk_drewN ?_ _ | refine blk_drew ?_ | refine blk_alloc ?_ _)); refine blk_put (cs := #[.int .i64 t127, .int .i64 0, .string (⟨#[]⟩ : ByteArray), .slice none 0 0, .slice none 0 0]) ?_ 1 _ rfl; (with_reducible repeat (first | refine blk_drewN ?_ _ | refine blk_drew ?_ | refine blk_alloc ?_ _)); refine blk_put (cs := #[.int .i64 0, .int .i64 0, .string (⟨#[]⟩ : ByteArray), .slice none 0 0, .slice none 0 0]) ?_ 0 _ rfl; (with_reducible repeat (first | refine blk_drewN ?_ _ | refine blk_drew ?_ | refine blk_alloc ?_ _)); exact BK136.out) hb); have n5_ := Aside0.mk (below_step (by repeat (first | (with_reducible first | exact HB.out | apply below_alloc | apply pw_below_drewN | apply below_drew1 | refine below_set ?_ GE136.out) | exact HB.out)) hb); clear HO132; clear HO135; clear BK136; clear HB; have HO132 := n0_; have HO135 := n1_; have HO142 := n2_; have HO145 := n3_; have BK136 := n4_; have HB := n5_; clear n0_ n1_ n2_ n3_ n4_ n5_; (try clear hb); (try clear hb2); (try clear hk); (try clear hi); (try clear ho0); (try clear ho1); obtain ⟨Ao14, co14, eo14⟩ := Kd.R_slice HO142.out; subst eo14; obtain ⟨Ao15, co15, eo15⟩ := Kd.R_slice HO145.out; subst eo15) | ((with_reducible refine gate_callee (f := 6) rfl ?_); refine goesL_ (some 14) rfl rfl Try.func6 (by kernel_rfl) rfl #[.agg #[.int .i64 t137, .int .u64 t138, .string t139, .slice Ao14 t140.length co14, .slice Ao15 t143.length co15]] rfl (by (try simp only [List.map_toArray, List.map_cons, List.map_nil]); first | done | rfl | (simp only [List.length_drop, List.length_take]; rfl)) ?_; (with_reducible refine (impl_JSDepth.calls t137 t138 t139 _ _ t140 _ _ t143 t146 true _ ?side1 ?side2 ?side3 ?side4 A5.out).mono ?_); (case side1 => repeat (first | exact (Kd.R_reads' HO142.out).2.2 | (with_reducible refine Kd.C_alloc ?_ _) | (with_reducible refine Kd.C_drewN ?_ _) | (with_reducible refine Kd.C_drew ?_))); (case side2 => exact (Kd.R_reads' HO142.out).2.1); (case side3 => repeat (first | exact (Kd.R_reads' HO145.out).2.2 | (with_reducible refine Kd.C_alloc ?_ _) | (with_reducible refine Kd.C_drewN ?_ _) | (with_reducible refine Kd.C_drew ?_))); (case side4 => exact (Kd.R_reads' HO145.out).2.1); rintro e w16 ⟨rfl, hb⟩; refine ⟨_, rfl, ?_⟩; have n0_ := Aside0.mk (Kd.R_below (by (with_reducible repeat (first | apply Kd.R_alloc | apply Kd.R_drewN | apply Kd.R_drew)); exact HO132.out) hb); have n1_ := Aside0.mk (Kd.R_below (by (with_reducible repeat (first | apply Kd.R_alloc | apply Kd.R_drewN | apply Kd.R_drew)); exact HO135.out) hb); have n2_ := Aside0.mk (Kd.R_below (by (with_reducible repeat (first | apply Kd.R_alloc | apply Kd.R_drewN | apply Kd.R_drew)); exact HO142.out) hb); have n3_ := Aside0.mk (Kd.R_below (by (with_reducible repeat (first | apply Kd.R_alloc | apply Kd.R_drewN | apply Kd.R_drew)); exact HO145.out) hb); have n4_ := Aside0.mk (blk_below (g := gb136) (o := .cells #[.int .i64 t127, .int .i64 t128, .string t129, .slice Ao11 t130.length co11, .slice Ao12 t133.length co12] 26 (0, 0)) (by (with_reducible repeat (first | refine blk_drewN ?_ _ | refine blk_drew ?_ | refine blk_alloc ?_ _)); exact BK136.out) hb); have n5_ := Aside0.mk (below_step (by repeat (first | (with_reducible first | exact HB.out | apply below_alloc | apply pw_below_drewN | apply below_drew1 | refine below_set ?_ GE136.out) | exact HB.out)) hb); clear HO132; clear HO135; clear HO142; clear HO145; clear BK136; clear HB; have HO132 := n0_; have HO135 := n1_; have HO142 := n2_; have HO145 := n3_; have BK136 := n4_; have HB := n5_; clear n0_ n1_ n2_ n3_ n4_ n5_; (try clear hb); (try clear hb2); (try clear hk); (try clear hi); have hcz17_0 : w16.cell? ⟨gb136, 0, none⟩ = some (.int .i64 t127) := (blk_cell BK136.out 0).trans rfl; have hcz17_1 : w16.cell? ⟨gb136, 1, none⟩ = some (.int .i64 t128) := (blk_cell BK136.out 1).trans rfl; have hcz17_2 : w16.cell? ⟨gb136, 2, none⟩ = some (.string t129) := (blk_cell BK136.out 2).trans rfl; have hcz17_3 : w16.cell? ⟨gb136, 3, none⟩ = some (.slice Ao11 t130.length co11) := (blk_cell BK136.out 3).trans rfl; have hcz17_4 : w16.cell? ⟨gb136, 4, none⟩ = some (.slice Ao12 t133.length co12) := (blk_cell BK136.out 4).trans rfl; have hfz17_0 := blk_frozen BK136.out 0; have hfz17_1 := blk_frozen BK136.out 1; have hfz17_2 := blk_frozen BK136.out 2; have hfz17_3 := blk_frozen BK136.out 3; have hfz17_4 := blk_frozen BK136.out 4) | (go_at_call 8; (with_reducible refine (spec_JSDepth.calls k t127 t128 t129 _ _ t130 _ _ t133 t148 _ ?side1 ?side2 ?side3 ?side4 A7.out).mono ?_); (case side1 => repeat (first | exact (Kd.R_reads' HO132.out).2.2 | (with_reducible refine Kd.C_alloc ?_ _) | (with_reducible refine Kd.C_drewN ?_ _) | (with_reducible refine Kd.C_drew ?_))); (case side2 => exact (Kd.R_reads' HO132.out).2.1); (case side3 => repeat (first | exact (Kd.R_reads' HO135.out).2.2 | (with_reducible refine Kd.C_alloc ?_ _) | (with_reducible refine Kd.C_drewN ?_ _) | (with_reducible refine Kd.C_drew ?_))); (case side4 => exact (Kd.R_reads' HO135.out).2.1); rintro e w18 ⟨rfl, hb⟩; have n0_ := Aside0.mk (Kd.R_below (by (with_reducible repeat (first | apply Kd.R_alloc | apply Kd.R_drewN | apply Kd.R_drew)); exact HO132.out) hb); have n1_ := Aside0.mk (Kd.R_below (by (with_reducible repeat (first | apply Kd.R_alloc | apply Kd.R_drewN | apply Kd.R_drew)); exact HO135.out) hb); have n2_ := Aside0.mk (Kd.R_below (by (with_reducible repeat (first | apply Kd.R_alloc | apply Kd.R_drewN | apply Kd.R_drew)); exact HO142.out) hb); have n3_ := Aside0.mk (Kd.R_below (by (with_reducible repeat (first | apply Kd.R_alloc | apply Kd.R_drewN | apply Kd.R_drew)); exact HO145.out) hb); have n4_ := Aside0.mk (blk_below (g := gb136) (o := .cells #[.int .i64 t127, .int .i64 t128, .string t129, .slice Ao11 t130.length co11, .slice Ao12 t133.length co12] 26 (0, 0)) (by (with_reducible repeat (first | refine blk_drewN ?_ _ | refine blk_drew ?_ | refine blk_alloc ?_ _)); exact BK136.out) hb); have n5_ := Aside0.mk (below_step (by repeat (first | (with_reducible first | exact HB.out | apply below_alloc | apply pw_below_drewN | apply below_drew1 | refine below_set ?_ GE136.out) | exact HB.out)) hb); clear HO132; clear HO135; clear HO142; clear HO145; clear BK136; clear HB; have HO132 := n0_; have HO135 := n1_; have HO142 := n2_; have HO145 := n3_; have BK136 := n4_; have HB := n5_; clear n0_ n1_ n2_ n3_ n4_ n5_; (try clear hb); (try clear hb2); (try clear hk); (try clear hi)))
      go_ret
      exact ⟨by first | rfl | (simp [errW_none, errW_some] <;> rfl) | (simp [*, errW_none, errW_some] <;> rfl), by repeat (first | (with_reducible first | exact HB.out | apply below_alloc | apply pw_below_drewN | apply below_drew1 | refine below_set ?_ GE136.out) | exact HB.out)⟩
    · replace c6 := Bool.eq_false_iff.mpr c6
      subst c6
      have H1 : (some false) = some r := by rw [if_neg (show ¬ (false = true) by decide)] at H; exact H
      clear H
      have H := H1
      clear H1
      obtain rfl := Option.some.inj H
      go_enter Try.func3, Try.ntmps3
      go_wp2_with (first | ((with_reducible refine gate_callee (f := 5) rfl ?_); refine goesL_ (some 10) rfl rfl Try.func5 (by kernel_rfl) rfl #[.slice A0 l0.length c0] rfl (by (try simp only [List.map_toArray, List.map_cons, List.map_nil]); first | done | rfl | (simp only [List.length_drop, List.length_take]; rfl)) ?_; (with_reducible refine (laws_jsOf.calls _ _ l0 t127 t128 t129 t130 t133 _ ?side1 ?side2 A3.out).mono ?_); (case side1 => repeat (first | exact HR0.out | (with_reducible refine Kd.C_alloc ?_ _) | (with_reducible refine Kd.C_drewN ?_ _) | (with_reducible refine Kd.C_drew ?_))); (case side2 => exact HC0.out); rintro e w19 ⟨v131, v134, rfl, ho0, ho1, hb⟩; refine ⟨_, rfl, ?_⟩; have n0_ := Aside0.mk (Kd.R_lower ho0 (below_size (by repeat (first | (with_reducible first | exact HB.out | apply below_alloc | apply pw_below_drewN | apply below_drew1) | exact HB.out)))); have n1_ := Aside0.mk (Kd.R_lower ho1 (below_size (by repeat (first | (with_reducible first | exact HB.out | apply below_alloc | apply pw_below_drewN | apply below_drew1) | exact HB.out)))); have n2_ := Aside0.mk (below_step (by repeat (first | (with_reducible first | exact HB.out | apply below_alloc | apply pw_below_drewN | apply below_drew1) | exact HB.out)) hb); clear HB; have HO132 := n0_; have HO135 := n1_; have HB := n2_; clear n0_ n1_ n2_; (try clear hb); (try clear hb2); (try clear hk); (try clear hi); (try clear ho0); (try clear ho1)) | ((with_reducible refine gate_dst (N := 3) rfl ?_); refine box_event ?hg (N := 3) ?hd (cs := #[.int .i64 0, .int .i64 0, .string (⟨#[]⟩ : ByteArray), .slice none 0 0, .slice none 0 0]) (t := 26) ?hr ?_; (case hd => rfl); (case hg => rfl); (case hr => first | (go_simp; done) | (go_simp; rfl)); intro gb136 hg w20 hbox hb; have n0_ := Aside0.mk (Kd.R_below (by (with_reducible repeat (first | apply Kd.R_alloc | apply Kd.R_drewN | apply Kd.R_drew)); exact HO132.out) hb); have n1_ := Aside0.mk (Kd.R_below (Kd.R_elderB (by (with_reducible repeat (first | apply Kd.R_alloc | apply Kd.R_drewN | apply Kd.R_drew)); exact HO135.out) gb136 (Nat.le_of_eq hg.symm)) hb); have n2_ := Aside0.mk (below_step (by repeat (first | (with_reducible first | exact HB.out | apply below_alloc | apply pw_below_drewN | apply below_drew1) | exact HB.out)) hb); have n3_ := Aside0.mk (hbox); have n4_ := Aside0.mk ((by rw [hg]; exact (below_size (by repeat (first | (with_reducible first | exact HB.out | apply below_alloc | apply pw_below_drewN | apply below_drew1) | exact HB.out))) : w.heap.size ≤ gb136)); have n5_ := Aside0.mk ((by rw [hg]; exact (below_size (by repeat (first | (with_reducible first | exact HB.out | apply below_alloc | apply pw_below_drewN | apply below_drew1) | exact HB.out))) : w.heap.size ≤ gb136)); clear HO132; clear HO135; clear HB; have HO132 := n0_; have HO135 := n1_; have HB := n2_; have BK136 := n3_; have GW136 := n4_; have GE136 := n5_; clear n0_ n1_ n2_ n3_ n4_ n5_; clear hb hbox hg; have hcz21_0 : w20.cell? ⟨gb136, 0, none⟩ = some (.int .i64 0) := (blk_cell BK136.out 0).trans rfl; have hcz21_1 : w20.cell? ⟨gb136, 1, none⟩ = some (.int .i64 0) := (blk_cell BK136.out 1).trans rfl; have hcz21_2 : w20.cell? ⟨gb136, 2, none⟩ = some (.string (⟨#[]⟩ : ByteArray)) := (blk_cell BK136.out 2).trans rfl; have hcz21_3 : w20.cell? ⟨gb136, 3, none⟩ = some (.slice none 0 0) := (blk_cell BK136.out 3).trans rfl; have hcz21_4 : w20.cell? ⟨gb136, 4, none⟩ = some (.slice none 0 0) := (blk_cell BK136.out 4).trans rfl; have hfz21_0 := blk_frozen BK136.out 0; have hfz21_1 := blk_frozen BK136.out 1; have hfz21_2 := blk_frozen BK136.out 2; have hfz21_3 := blk_frozen BK136.out 3; have hfz21_4 := blk_frozen BK136.out 4; obtain ⟨Ao22, co22, eo22⟩ := Kd.R_slice HO132.out; subst eo22; obtain ⟨Ao23, co23, eo23⟩ := Kd.R_slice HO135.out; subst eo23) | ((with_reducible refine gate_callee (f := 7) rfl ?_); refine goesL_ (some 13) rfl rfl Try.func7 (by kernel_rfl) rfl #[.agg #[.int .i64 t127, .int .i64 t128, .string t129, .slice Ao22 t130.length co22, .slice Ao23 t133.length co23]] rfl (by (try simp only [List.map_toArray, List.map_cons, List.map_nil]); first | done | rfl | (simp only [List.length_drop, List.length_take]; rfl)) ?_; (with_reducible refine (laws_jsIn.calls k t127 t128 t129 _ _ t130 _ _ t133 t137 t138 t139 t140 t143 _ ?side1 ?side2 ?side3 ?side4 A4.out).mono ?_); (case side1 => refine (Kd.R_reads' (e := 9) (base := w.heap.size) (ok := fun k_ => True) (n := t130.length) (c := co22) ?_).2.2; exact (by (with_reducible repeat (first | apply Kd.R_alloc | apply Kd.R_drewN | apply Kd.R_drew)); exact (Kd.R_mono (Kd.R_far (p := ⟨gb136, 4, none⟩) (Kd.R_far (p := ⟨gb136, 3, none⟩) (Kd.R_far (p := ⟨gb136, 2, none⟩) (Kd.R_far (p := ⟨gb136, 1, none⟩) (Kd.R_far (p := ⟨gb136, 0, none⟩) (Kd.R_types HO132.out BK136.out (by decide)) (fun _ hk => hk.2) (.int .i64 t127)) (fun _ hk => hk.2) (.int .i64 t128)) (fun _ hk => hk.2) (.string t129)) (fun _ hk => hk.2) (.slice Ao22 t130.length co22)) (fun _ hk => hk.2) (.slice Ao23 t133.length co23)) (fun _ h_ => h_.1)))); (case side2 => exact (Kd.R_reads' HO132.out).2.1); (case side3 => refine (Kd.R_reads' (e := 26) (base := w.heap.size) (ok := fun k_ => (some k_ ≠ (.slice Ao22 t130.length co22 : Value).ownBlock ∧ k_ ≠ gb136)) (n := t133.length) (c := co23) ?_).2.2; exact (by (with_reducible repeat (first | apply Kd.R_alloc | apply Kd.R_drewN | apply Kd.R_drew)); exact (Kd.R_mono (Kd.R_far (p := ⟨gb136, 4, none⟩) (Kd.R_far (p := ⟨gb136, 3, none⟩) (Kd.R_far (p := ⟨gb136, 2, none⟩) (Kd.R_far (p := ⟨gb136, 1, none⟩) (Kd.R_far (p := ⟨gb136, 0, none⟩) (Kd.R_mono HO135.out (fun k_ hk => (⟨hk, hk.2⟩ : _ ∧ k_ ≠ gb136))) (fun _ hk => hk.2) (.int .i64 t127)) (fun _ hk => hk.2) (.int .i64 t128)) (fun _ hk => hk.2) (.string t129)) (fun _ hk => hk.2) (.slice Ao22 t130.length co22)) (fun _ hk => hk.2) (.slice Ao23 t133.length co23)) (fun _ h_ => h_.1)))); (case side4 => exact (Kd.R_reads' HO135.out).2.1); rintro e w24 ⟨v141, v144, rfl, ho0, ho1, hb⟩; refine ⟨_, rfl, ?_⟩; have n0_ := Aside0.mk (Kd.R_elder' (by (with_reducible repeat (first | apply Kd.R_alloc | apply Kd.R_drewN | apply Kd.R_drew)); exact (Kd.R_mono (Kd.R_far (p := ⟨gb136, 4, none⟩) (Kd.R_far (p := ⟨gb136, 3, none⟩) (Kd.R_far (p := ⟨gb136, 2, none⟩) (Kd.R_far (p := ⟨gb136, 1, none⟩) (Kd.R_far (p := ⟨gb136, 0, none⟩) (Kd.R_types HO132.out BK136.out (by decide)) (fun _ hk => hk.2) (.int .i64 t127)) (fun _ hk => hk.2) (.int .i64 t128)) (fun _ hk => hk.2) (.string t129)) (fun _ hk => hk.2) (.slice Ao22 t130.length co22)) (fun _ hk => hk.2) (.slice Ao23 t133.length co23)) (fun _ h_ => h_.1))) (Kd.R_base ho0) hb); have n1_ := Aside0.mk (Kd.R_elder' (by (with_reducible repeat (first | apply Kd.R_alloc | apply Kd.R_drewN | apply Kd.R_drew)); exact (Kd.R_mono (Kd.R_far (p := ⟨gb136, 4, none⟩) (Kd.R_far (p := ⟨gb136, 3, none⟩) (Kd.R_far (p := ⟨gb136, 2, none⟩) (Kd.R_far (p := ⟨gb136, 1, none⟩) (Kd.R_far (p := ⟨gb136, 0, none⟩) (Kd.R_mono HO135.out (fun k_ hk => (⟨hk, hk.2⟩ : _ ∧ k_ ≠ gb136))) (fun _ hk => hk.2) (.int .i64 t127)) (fun _ hk => hk.2) (.int .i64 t128)) (fun _ hk => hk.2) (.string t129)) (fun _ hk => hk.2) (.slice Ao22 t130.length co22)) (fun _ hk => hk.2) (.slice Ao23 t133.length co23)) (fun _ h_ => h_.1))) (Kd.R_base ho0) hb); have n2_ := Aside0.mk (Kd.R_lower (Kd.R_new' ho0 (Kd.R_lt (by (with_reducible repeat (first | apply Kd.R_alloc | apply Kd.R_drewN | apply Kd.R_drew)); exact (Kd.R_mono (Kd.R_far (p := ⟨gb136, 4, none⟩) (Kd.R_far (p := ⟨gb136, 3, none⟩) (Kd.R_far (p := ⟨gb136, 2, none⟩) (Kd.R_far (p := ⟨gb136, 1, none⟩) (Kd.R_far (p := ⟨gb136, 0, none⟩) (Kd.R_types HO132.out BK136.out (by decide)) (fun _ hk => hk.2) (.int .i64 t127)) (fun _ hk => hk.2) (.int .i64 t128)) (fun _ hk => hk.2) (.string t129)) (fun _ hk => hk.2) (.slice Ao22 t130.length co22)) (fun _ hk => hk.2) (.slice Ao23 t133.length co23)) (fun _ h_ => h_.1))))) (below_size (by repeat (first | (with_reducible first | exact HB.out | apply below_alloc | apply pw_below_drewN | apply below_drew1 | refine below_set ?_ GE136.out) | exact HB.out)))); have n3_ := Aside0.mk (Kd.R_lower (Kd.R_new' ho1 (Kd.R_lt (by (with_reducible repeat (first | apply Kd.R_alloc | apply Kd.R_drewN | apply Kd.R_drew)); exact (Kd.R_mono (Kd.R_far (p := ⟨gb136, 4, none⟩) (Kd.R_far (p := ⟨gb136, 3, none⟩) (Kd.R_far (p := ⟨gb136, 2, none⟩) (Kd.R_far (p := ⟨gb136, 1, none⟩) (Kd.R_far (p := ⟨gb136, 0, none⟩) (Kd.R_types HO132.out BK136.out (by decide)) (fun _ hk => hk.2) (.int .i64 t127)) (fun _ hk => hk.2) (.int .i64 t128)) (fun _ hk => hk.2) (.string t129)) (fun _ hk => hk.2) (.slice Ao22 t130.length co22)) (fun _ hk => hk.2) (.slice Ao23 t133.length co23)) (fun _ h_ => h_.1))))) (below_size (by repeat (first | (with_reducible first | exact HB.out | apply below_alloc | apply pw_below_drewN | apply below_drew1 | refine below_set ?_ GE136.out) | exact HB.out)))); have n4_ := Aside0.mk (blk_below (g := gb136) (o := .cells #[.int .i64 t127, .int .i64 t128, .string t129, .slice Ao22 t130.length co22, .slice Ao23 t133.length co23] 26 (0, 0)) (by (with_reducible repeat (first | refine blk_drewN ?_ _ | refine blk_drew ?_ | refine blk_alloc ?_ _)); refine blk_put (cs := #[.int .i64 t127, .int .i64 t128, .string t129, .slice Ao22 t130.length co22, .slice none 0 0]) ?_ 4 _ rfl; (with_reducible repeat (first | refine blk_drewN ?_ _ | refine blk_drew ?_ | refine blk_alloc ?_ _)); refine blk_put (cs := #[.int .i64 t127, .int .i64 t128, .string t129, .slice none 0 0, .slice none 0 0]) ?_ 3 _ rfl; (with_reducible repeat (first | refine blk_drewN ?_ _ | refine blk_drew ?_ | refine blk_alloc ?_ _)); refine blk_put (cs := #[.int .i64 t127, .int .i64 t128, .string (⟨#[]⟩ : ByteArray), .slice none 0 0, .slice none 0 0]) ?_ 2 _ rfl; (with_reducible repeat (first | refine blk_drewN ?_ _ | refine blk_drew ?_ | refine blk_alloc ?_ _)); refine blk_put (cs := #[.int .i64 t127, .int .i64 0, .string (⟨#[]⟩ : ByteArray), .slice none 0 0, .slice none 0 0]) ?_ 1 _ rfl; (with_reducible repeat (first | refine blk_drewN ?_ _ | refine blk_drew ?_ | refine blk_alloc ?_ _)); refine blk_put (cs := #[.int .i64 0, .int .i64 0, .string (⟨#[]⟩ : ByteArray), .slice none 0 0, .slice none 0 0]) ?_ 0 _ rfl; (with_reducible repeat (first | refine blk_drewN ?_ _ | refine blk_drew ?_ | refine blk_alloc ?_ _)); exact BK136.out) hb); have n5_ := Aside0.mk (below_step (by repeat (first | (with_reducible first | exact HB.out | apply below_alloc | apply pw_below_drewN | apply below_drew1 | refine below_set ?_ GE136.out) | exact HB.out)) hb); clear HO132; clear HO135; clear BK136; clear HB; have HO132 := n0_; have HO135 := n1_; have HO142 := n2_; have HO145 := n3_; have BK136 := n4_; have HB := n5_; clear n0_ n1_ n2_ n3_ n4_ n5_; (try clear hb); (try clear hb2); (try clear hk); (try clear hi); (try clear ho0); (try clear ho1); obtain ⟨Ao25, co25, eo25⟩ := Kd.R_slice HO142.out; subst eo25; obtain ⟨Ao26, co26, eo26⟩ := Kd.R_slice HO145.out; subst eo26) | ((with_reducible refine gate_callee (f := 6) rfl ?_); refine goesL_ (some 14) rfl rfl Try.func6 (by kernel_rfl) rfl #[.agg #[.int .i64 t137, .int .u64 t138, .string t139, .slice Ao25 t140.length co25, .slice Ao26 t143.length co26]] rfl (by (try simp only [List.map_toArray, List.map_cons, List.map_nil]); first | done | rfl | (simp only [List.length_drop, List.length_take]; rfl)) ?_; (with_reducible refine (impl_JSDepth.calls t137 t138 t139 _ _ t140 _ _ t143 t146 false _ ?side1 ?side2 ?side3 ?side4 A5.out).mono ?_); (case side1 => repeat (first | exact (Kd.R_reads' HO142.out).2.2 | (with_reducible refine Kd.C_alloc ?_ _) | (with_reducible refine Kd.C_drewN ?_ _) | (with_reducible refine Kd.C_drew ?_))); (case side2 => exact (Kd.R_reads' HO142.out).2.1); (case side3 => repeat (first | exact (Kd.R_reads' HO145.out).2.2 | (with_reducible refine Kd.C_alloc ?_ _) | (with_reducible refine Kd.C_drewN ?_ _) | (with_reducible refine Kd.C_drew ?_))); (case side4 => exact (Kd.R_reads' HO145.out).2.1); rintro e w27 ⟨rfl, hb⟩; refine ⟨_, rfl, ?_⟩; have n0_ := Aside0.mk (Kd.R_below (by (with_reducible repeat (first | apply Kd.R_alloc | apply Kd.R_drewN | apply Kd.R_drew)); exact HO132.out) hb); have n1_ := Aside0.mk (Kd.R_below (by (with_reducible repeat (first | apply Kd.R_alloc | apply Kd.R_drewN | apply Kd.R_drew)); exact HO135.out) hb); have n2_ := Aside0.mk (Kd.R_below (by (with_reducible repeat (first | apply Kd.R_alloc | apply Kd.R_drewN | apply Kd.R_drew)); exact HO142.out) hb); have n3_ := Aside0.mk (Kd.R_below (by (with_reducible repeat (first | apply Kd.R_alloc | apply Kd.R_drewN | apply Kd.R_drew)); exact HO145.out) hb); have n4_ := Aside0.mk (blk_below (g := gb136) (o := .cells #[.int .i64 t127, .int .i64 t128, .string t129, .slice Ao22 t130.length co22, .slice Ao23 t133.length co23] 26 (0, 0)) (by (with_reducible repeat (first | refine blk_drewN ?_ _ | refine blk_drew ?_ | refine blk_alloc ?_ _)); exact BK136.out) hb); have n5_ := Aside0.mk (below_step (by repeat (first | (with_reducible first | exact HB.out | apply below_alloc | apply pw_below_drewN | apply below_drew1 | refine below_set ?_ GE136.out) | exact HB.out)) hb); clear HO132; clear HO135; clear HO142; clear HO145; clear BK136; clear HB; have HO132 := n0_; have HO135 := n1_; have HO142 := n2_; have HO145 := n3_; have BK136 := n4_; have HB := n5_; clear n0_ n1_ n2_ n3_ n4_ n5_; (try clear hb); (try clear hb2); (try clear hk); (try clear hi)))
      go_ret
      exact ⟨by first | rfl | (simp [errW_none, errW_some] <;> rfl) | (simp [*, errW_none, errW_some] <;> rfl), by repeat (first | (with_reducible first | exact HB.out | apply below_alloc | apply pw_below_drewN | apply below_drew1 | refine below_set ?_ GE136.out) | exact HB.out)⟩

/-- THE ONE PURE STATEMENT of laws_FnJSDepth: yours. -/
def laws_FnJSDepth.Pure : Prop := ∀ (l0 : List Int), l0.length ≤ maxLen → l0.length * 1 ≤ 140737488351232 → (∀ x ∈ l0, (Lit.int .u8 x).wf = true) → ∃ k, laws_FnJSDepth.f k l0 = some true
theorem laws_FnJSDepth.walk (P : laws_FnJSDepth.Pure) (a0 : Option Addr) (len0 cap0 : Nat) (z0 : List Int) (w : World) (w0 : (a0 = none ∧ len0 = 0 ∧ cap0 = 0 ∧ z0 = []) ∨ ∃ x, a0 = some x ∧ len0 ≤ cap0 ∧ cap0 ≤ maxLen ∧ z0.length = cap0 ∧ (∀ i, i < z0.length → w.cell? (x.add i) = some (.int .u8 (z0.getD i 0))) ∧ ∀ n ∈ z0, (Lit.int .u8 n).wf = true) (y0 : len0 * 1 ≤ 140737488351232) :
    Calls Try.prog 3 #[.slice a0 len0 cap0] w fun e w' => e = .returned (.bool true) ∧ Below w.heap.size w w' := by
  obtain ⟨l0, rfl, hr0, hm0, hw0, hc0⟩ := ReadsInt.ofRowC w0
  obtain ⟨k, h⟩ := P l0 hm0 y0 hw0
  refine (laws_FnJSDepth.calls k _ _ l0 true w (Kd.C_of_reads (d := (0 : Int)) (h1 := fun _ => rfl) hr0) hc0 h).mono ?_
  rintro e w' ⟨rfl, hd⟩
  exact ⟨rfl, hd⟩

end Go.Proofs.Ytlhaifbmacndeaa.PJS
