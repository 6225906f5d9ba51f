-- written by gprint.py, a program of this claim's own, by means of the kit's print
import Derived.Test.YtlghbhkpdlkhjaaDoorPEQ0
import Derived.Test.YtlghbhkpdlkhjaaDoorPEQ1
import Derived.Test.YtlghbhkpdlkhjaaDoorPEQ2
import Derived.Test.YtlghbhkpdlkhjaaDoorEQd
namespace Go.Proofs.YtlghbhkpdlkhjaaDoor.PEQ
open Go.RowKit Go.Proofs.YtlghbhkpdlkhjaaDoorW.PrintWords Go.Proofs.YtlghbhkpdlkhjaaDoorW.PrintLast Go.Proofs.YtlghbhkpdlkhjaaDoorW.PrintMore
open Go.Proofs.YtlghbhkpdlkhjaaDoor.PIS (Glob Glob.later)
attribute [local go_sem] max2_int min2_int max_two min_two max_three min_three max_four min_four   -- for this text's walks alone
set_option linter.unusedVariables false
set_option linter.unusedSimpArgs false

/-! ### spec_ISHas: function 24 -/
def spec_ISHas.l0 : Nat → List Int → Int → Int → Option (Bool)
  | 0, _, _, _ => none
  | k + 1, x0, x1, x5 => if x5 < (x0.length : Int) then (if 0 ≤ x5 then (if (rd x0 x5) = x1 then (some true) else (spec_ISHas.l0 k x0 x1 (wrap64 (x5 + 1)))) else (none)) else (some false)
def spec_ISHas.f (k : Nat) (l0 : List Int) (a1 : Int) : Option (Bool) := spec_ISHas.l0 k l0 a1 0
theorem spec_ISHas.mono_l : ∀ k, (∀ y0 y1 y2, LeO (spec_ISHas.l0 k y0 y1 y2) (spec_ISHas.l0 (k + 1) y0 y1 y2))
  | 0 => fun _ _ _ r h => by simp [spec_ISHas.l0] at h
  | k + 1 => by
    have ih0 := spec_ISHas.mono_l k
    · intro y0 y1 y2
      unfold spec_ISHas.l0
      repeat' first
      | (with_reducible exact ih0 _ _ _)
      | (with_reducible exact LeO.refl _)
      | (with_reducible exact LeO.none _)
      | (with_reducible refine LeO.ite ?_ ?_)
      | (with_reducible refine LeO.bind ?_ (fun _ => ?_))
      | exact ih0 _ _ _
      | exact LeO.none _
      | refine LeO.ite ?_ ?_
      | refine LeO.bind ?_ (fun _ => ?_)
theorem spec_ISHas.mono : ∀ a0 a1 k, LeO (spec_ISHas.f k a0 a1) (spec_ISHas.f (k + 1) a0 a1) := by
  intro a0 a1 k
  have ih0 := spec_ISHas.mono_l k
  unfold spec_ISHas.f
  repeat' first
      | (with_reducible exact ih0 _ _ _)
      | (with_reducible exact LeO.refl _)
      | (with_reducible exact LeO.none _)
      | (with_reducible refine LeO.ite ?_ ?_)
      | (with_reducible refine LeO.bind ?_ (fun _ => ?_))
      | exact ih0 _ _ _
      | exact LeO.none _
      | refine LeO.ite ?_ ?_
      | refine LeO.bind ?_ (fun _ => ?_)
set_option maxHeartbeats 8000000 in
set_option maxRecDepth 100000 in
theorem spec_ISHas.calls (k : Nat) (A0 : Option Addr) (c0 : Nat) (l0 : List Int) (a1 : Int) (r : Bool) (w : World) (hr0 : Kd.C (Kd.int .i64) w A0 l0.length l0) (hc0 : l0.length ≤ c0) (h : spec_ISHas.f k l0 a1 = some r) :
    Calls Tryd.prog 24 #[.slice A0 l0.length c0, .int .i64 a1] w fun e w' => e = .returned (.bool r) ∧ Drawn0 w w' := by
  have HR0 := Aside0.mk hr0
  have HC0 := Aside0.mk hc0
  clear hr0 hc0
  have H : (spec_ISHas.l0 k l0 a1 0) = some r := h
  clear h
  have H' := Aside0.mk H
  clear H
  go_enter Tryd.func24, Tryd.ntmps24
  go_wp2
  go_loopg [5] k (fun kq v5 w' => ∃ (x5_1 : Int), v5 = .int .i64 x5_1 ∧ Aside0 (spec_ISHas.l0 kq l0 a1 x5_1 = some r) ∧ Aside0 (kq ≤ k) ∧ Drawn0 w w')
  case atStart => exact ⟨(0), (by first | rfl | (simp; done) | (simp [*]; done)), H', ⟨Nat.le_refl _⟩, by repeat (first | exact Drawn0.refl _ | apply Drawn0.step)⟩
  case round =>
    clear H'
    try clear c2
    try clear p2
    obtain ⟨x5_1, rfl, HA, HK1, ⟨m1, rfl⟩⟩ := hrel
    cases gk with
    | zero => exact absurd HA.out (by simp [spec_ISHas.l0])
    | succ k1 =>
      have H := HA.out
      clear HA
      simp only [spec_ISHas.l0] at H
      by_cases c3 : x5_1 < (l0.length : Int)
      · rw [if_pos c3] at H
        have c3b0 : decide (x5_1 < (l0.length : Int)) = true := decide_eq_true c3
        clear c3
        by_cases c4 : 0 ≤ x5_1
        · rw [if_pos c4] at H
          have c4b0 : decide (0 ≤ x5_1) = true := decide_eq_true c4
          clear c4
          by_cases c5 : (rd l0 x5_1) = a1
          · rw [if_pos c5] at H
            have c5b0 : ((rd l0 x5_1) == a1) = true := beq_iff_eq.mpr c5
            have c5b1 : ((rd l0 x5_1) != a1) = false := bne_eq_false_iff_eq.mpr c5
            clear c5
            obtain rfl := Option.some.inj H
            have p152 : 0 ≤ (x5_1 : Int) := of_decide_eq_true (by first | (with_reducible assumption) | assumption)
            have q152 : x5_1 < (l0.length : Int) := of_decide_eq_true (by first | (with_reducible assumption) | assumption)
            obtain ⟨ad152, e152, hx152_0⟩ := Kd.at_int HR0.out x5_1 p152 q152
            cases e152
            replace p152 := eq_true p152
            replace q152 := eq_true q152
            go_wp2
            go_ret
            exact ⟨by first | rfl | (simp; done) | (simp [*]; done), by repeat (first | exact Drawn0.refl _ | apply Drawn0.step)⟩
          · rw [if_neg c5] at H
            have c5b0 : ((rd l0 x5_1) == a1) = false := beq_eq_false_iff_ne.mpr c5
            have c5b1 : ((rd l0 x5_1) != a1) = true := bne_iff_ne.mpr c5
            have H' := Aside0.mk H
            clear H
            have p152 : 0 ≤ (x5_1 : Int) := of_decide_eq_true (by first | (with_reducible assumption) | assumption)
            have q152 : x5_1 < (l0.length : Int) := of_decide_eq_true (by first | (with_reducible assumption) | assumption)
            obtain ⟨ad152, e152, hx152_0⟩ := Kd.at_int HR0.out x5_1 p152 q152
            cases e152
            replace p152 := eq_true p152
            replace q152 := eq_true q152
            go_wp2
            go_roundg k1
            case measure => have := HK1.out; omega
            case rel => exact ⟨(wrap64 (x5_1 + 1)), (by first | rfl | (simp; done) | (simp [*]; done)), H', ⟨by have := HK1.out; omega⟩, by repeat (first | exact Drawn0.refl _ | apply Drawn0.step)⟩
        · rw [if_neg c4] at H
          exact absurd H (by simp)
      · rw [if_neg c3] at H
        have c3b0 : decide (x5_1 < (l0.length : Int)) = false := decide_eq_false c3
        clear c3
        obtain rfl := Option.some.inj H
        go_wp2
        go_ret
        exact ⟨by first | rfl | (simp; done) | (simp [*]; done), by repeat (first | exact Drawn0.refl _ | apply Drawn0.step)⟩

/-! ### spec_ISBoth: function 11 -/
def spec_ISBoth.l0 : Nat → List Int → List Int → Bool → List Int → Int → Option (List Int)
  | 0, _, _, _, _, _ => none
  | k + 1, x0, x1, x2, x7, x8 => if x8 < (x0.length : Int) then (if 0 ≤ x8 then ((spec_ISHas.f k x1 (rd x0 x8)).bind fun t154 => (if (t154 == x2) = true then (if x7.length < 17592186044416 then (spec_ISBoth.l0 k x0 x1 x2 (x7 ++ [rd x0 x8]) (wrap64 (x8 + 1))) else (none)) else (spec_ISBoth.l0 k x0 x1 x2 x7 (wrap64 (x8 + 1))))) else (none)) else (some x7)
def spec_ISBoth.f (k : Nat) (l0 : List Int) (l1 : List Int) (a2 : Bool) : Option (List Int) := spec_ISBoth.l0 k l0 l1 a2 ([] : List Int) 0
theorem spec_ISBoth.mono_l : ∀ k, (∀ y0 y1 y2 y3 y4, LeO (spec_ISBoth.l0 k y0 y1 y2 y3 y4) (spec_ISBoth.l0 (k + 1) y0 y1 y2 y3 y4))
  | 0 => fun _ _ _ _ _ r h => by simp [spec_ISBoth.l0] at h
  | k + 1 => by
    have ih0 := spec_ISBoth.mono_l k
    · intro y0 y1 y2 y3 y4
      unfold spec_ISBoth.l0
      repeat' first
      | (with_reducible exact ih0 _ _ _ _ _)
      | (with_reducible exact spec_ISHas.mono _ _ _)
      | (with_reducible exact LeO.refl _)
      | (with_reducible exact LeO.none _)
      | (with_reducible refine LeO.ite ?_ ?_)
      | (with_reducible refine LeO.bind ?_ (fun _ => ?_))
      | exact ih0 _ _ _ _ _
      | exact spec_ISHas.mono _ _ _
      | exact LeO.none _
      | refine LeO.ite ?_ ?_
      | refine LeO.bind ?_ (fun _ => ?_)
theorem spec_ISBoth.mono : ∀ a0 a1 a2 k, LeO (spec_ISBoth.f k a0 a1 a2) (spec_ISBoth.f (k + 1) a0 a1 a2) := by
  intro a0 a1 a2 k
  have ih0 := spec_ISBoth.mono_l k
  unfold spec_ISBoth.f
  repeat' first
      | (with_reducible exact ih0 _ _ _ _ _)
      | (with_reducible exact spec_ISHas.mono _ _ _)
      | (with_reducible exact LeO.refl _)
      | (with_reducible exact LeO.none _)
      | (with_reducible refine LeO.ite ?_ ?_)
      | (with_reducible refine LeO.bind ?_ (fun _ => ?_))
      | exact ih0 _ _ _ _ _
      | exact spec_ISHas.mono _ _ _
      | exact LeO.none _
      | refine LeO.ite ?_ ?_
      | refine LeO.bind ?_ (fun _ => ?_)
set_option maxHeartbeats 8000000 in
set_option maxRecDepth 100000 in
theorem spec_ISBoth.calls (k : Nat) (A0 : Option Addr) (c0 : Nat) (l0 : List Int) (A1 : Option Addr) (c1 : Nat) (l1 : List Int) (a2 : Bool) (r : List Int) (w : World) (hr0 : Kd.C (Kd.int .i64) w A0 l0.length l0) (hc0 : l0.length ≤ c0) (hr1 : Kd.C (Kd.int .i64) w A1 l1.length l1) (hc1 : l1.length ≤ c1) (h : spec_ISBoth.f k l0 l1 a2 = some r) :
    Calls Tryd.prog 11 #[.slice A0 l0.length c0, .slice A1 l1.length c1, .bool a2] w fun e w' => ∃ v0_ : Value, e = .returned (v0_) ∧ Kd.R (Kd.int .i64) 3 w' w.heap.size (fun _ => True) v0_ r ∧ Below w.heap.size w w' := by
  have HR0 := Aside0.mk hr0
  have HC0 := Aside0.mk hc0
  clear hr0 hc0
  have HR1 := Aside0.mk hr1
  have HC1 := Aside0.mk hc1
  clear hr1 hc1
  have HB := Aside0.mk (Below.refl w.heap.size w)
  have H : (spec_ISBoth.l0 k l0 l1 a2 ([] : List Int) 0) = some r := h
  clear h
  have H' := Aside0.mk H
  clear H
  go_enter Tryd.func11, Tryd.ntmps11
  go_wp2
  go_loopg [7, 8] k (fun kq v7 v8 w' => ∃ (x7_1 : List Int) (x8_1 : Int), v8 = .int .i64 x8_1 ∧ Aside0 (spec_ISBoth.l0 kq l0 l1 a2 x7_1 x8_1 = some r) ∧ Aside0 (kq ≤ k) ∧ Aside0 (Kd.R (Kd.int .i64) 3 w' w.heap.size (fun _ => True) v7 x7_1) ∧ Aside0 (Below w.heap.size w w'))
  case atStart => exact ⟨(([] : List Int)), (0), (by first | rfl | (simp; done) | (simp [*]; done)), H', ⟨Nat.le_refl _⟩, ⟨by first | exact Kd.R_nil _ _ _ _ _ | exact Kd.N_nil _ _ _ _ _ | exact Kd.V_nil _ _ _ _ _ | exact Kd.Q_nil _ _ _ _ _ | exact Kd.S_nil _ _ _ _ _⟩, ⟨by repeat (first | (with_reducible first | exact HB.out | apply below_alloc | apply pw_below_drewN | apply below_drew1) | exact HB.out)⟩⟩
  case round =>
    clear H'
    try clear c1
    try clear p2
    obtain ⟨x7_1, x8_1, rfl, HA, HK1, HO_7, HB⟩ := hrel
    cases gk with
    | zero => exact absurd HA.out (by simp [spec_ISBoth.l0])
    | succ k1 =>
      have H := HA.out
      clear HA
      simp only [spec_ISBoth.l0] at H
      by_cases c4 : x8_1 < (l0.length : Int)
      · rw [if_pos c4] at H
        have c4b0 : decide (x8_1 < (l0.length : Int)) = true := decide_eq_true c4
        clear c4
        by_cases c5 : 0 ≤ x8_1
        · rw [if_pos c5] at H
          have c5b0 : decide (0 ≤ x8_1) = true := decide_eq_true c5
          clear c5
          replace H := Option.bind_eq_some_iff.mp H
          obtain ⟨t154, A60, H⟩ := H
          replace H : (if (t154 == a2) = true then (if x7_1.length < 17592186044416 then (spec_ISBoth.l0 k1 l0 l1 a2 (x7_1 ++ [rd l0 x8_1]) (wrap64 (x8_1 + 1))) else (none)) else (spec_ISBoth.l0 k1 l0 l1 a2 x7_1 (wrap64 (x8_1 + 1)))) = some r := H
          have A6 := Aside0.mk A60
          clear A60
          by_cases c7 : (t154 == a2) = true
          · rw [if_pos c7] at H
            have c7b0 : (t154 == a2) = true := c7
            (try (have c7b1 : decide (t154 = a2) = true := by simpa using c7))
            (try (have c7b2 : (t154 == a2) = true := by simpa using c7))
            clear c7
            by_cases c8 : x7_1.length < 17592186044416
            · rw [if_pos c8] at H
              have LMc8 := Aside0.mk c8
              clear c8
              obtain ⟨y156, hy156⟩ : ∃ y_ : List Int, y_ = (x7_1 ++ [rd l0 x8_1]) := ⟨_, rfl⟩
              replace H : (spec_ISBoth.l0 k1 l0 l1 a2 y156 (wrap64 (x8_1 + 1))) = some r := by first | (rw [hy156]; with_reducible exact H) | (have H2_ := (Option.bind_some _ _).symm.trans H; rw [hy156]; with_reducible exact H2_) | (have H2_ := (Option.bind_some _ _).symm.trans H; with_reducible exact H2_) | with_reducible exact H | (rw [hy156]; exact H) | exact H
              have Ny156 := Aside0.mk hy156
              clear hy156
              have H' := Aside0.mk H
              clear H
              have p153 : 0 ≤ (x8_1 : Int) := of_decide_eq_true (by first | (with_reducible assumption) | assumption)
              have q153 : x8_1 < (l0.length : Int) := of_decide_eq_true (by first | (with_reducible assumption) | assumption)
              obtain ⟨ad153, e153, hx153_0⟩ := Kd.at_int HR0.out x8_1 p153 q153
              cases e153
              replace hx153_0 := (HB.out.cell (World.block_lt_of_cell? w _ hx153_0)).trans hx153_0
              replace p153 := eq_true p153
              replace q153 := eq_true q153
              go_wp2_with (first | ((with_reducible refine gate_callee (f := 24) rfl ?_); refine goesL_ (some 20) rfl rfl Tryd.func24 (by kernel_rfl) rfl #[.slice A1 l1.length c1, .int .i64 (rd l0 x8_1)] rfl (by (try simp only [List.map_toArray, List.map_cons, List.map_nil]); first | done | rfl | (simp only [List.length_drop, List.length_take]; rfl)) ?_; (with_reducible refine (spec_ISHas.calls k1 _ _ l1 (rd l0 x8_1) t154 _ ?side1 ?side2 A6.out).mono ?_); (case side1 => repeat (first | exact (Kd.C_below HR1.out HB.out) | (with_reducible refine Kd.C_alloc ?_ _) | (with_reducible refine Kd.C_drewN ?_ _) | (with_reducible refine Kd.C_drew ?_))); (case side2 => exact HC1.out); rintro e w' ⟨rfl, ⟨nd, rfl⟩⟩; refine ⟨_, rfl, ?_⟩; have p155 : 0 ≤ (x8_1 : Int) := of_decide_eq_true (by first | (with_reducible assumption) | assumption); have q155 : x8_1 < (l0.length : Int) := of_decide_eq_true (by first | (with_reducible assumption) | assumption); obtain ⟨ad155, e155, hx155_0⟩ := Kd.at_int HR0.out x8_1 p155 q155; obtain rfl : ad153 = ad155 := (by injection e155); replace hx155_0 := (HB.out.cell (World.block_lt_of_cell? w _ hx155_0)).trans hx155_0; replace p155 := eq_true p155; replace q155 := eq_true q155) | ((with_reducible refine gate_builtin (b := .append) (xs := #[.tmp 23, .tmp 28]) rfl ?_); at_builtin; refine Kd.R_append (Kd.int .i64) (w0 := w) w.heap.size rfl (.tmp 23) (.tmp 28) 22 3 (.int .i64 0) 8 rfl Tryd.underlying22 info3 rfl (by decide) (by omega) u7 x7_1 (rd l0 x8_1) [.int .i64 (rd l0 x8_1)] (fun _ => True) (fun _ => False) rfl rfl ?aP (fun _ hk => hk.elim) ?aF ?aO ?aB ?aS ?aL ?_; (case aP => exact rfl); (case aB => exact (by repeat (first | (with_reducible first | exact HB.out | apply below_alloc | apply pw_below_drewN | apply below_drew1) | exact HB.out))); (case aF => exact (fun _ _ => trivial)); (case aO => exact (by (with_reducible repeat (first | apply Kd.R_alloc | apply Kd.R_drewN | apply Kd.R_drew)); exact HO_7.out)); (case aS => exact (below_size (by repeat (first | (with_reducible first | exact HB.out | apply below_alloc | apply pw_below_drewN | apply below_drew1) | exact HB.out)))); (case aL => have := LMc8.out; omega); intro v157 w9 ho hb hg hat; rw [← Ny156.out] at ho; have n0_ := Aside0.mk (hb); have n1_ := Aside0.mk (ho); clear HB; clear HO_7; have HB := n0_; have HO158 := n1_; clear n0_ n1_; clear ho hb hg hat))
              go_roundg k1
              case measure => have := HK1.out; omega
              case rel => exact ⟨(y156), (wrap64 (x8_1 + 1)), (by first | rfl | (simp; done) | (simp [*]; done)), H', ⟨by have := HK1.out; omega⟩, ⟨by (with_reducible repeat (first | apply Kd.R_alloc | apply Kd.R_drewN | apply Kd.R_drew)); exact HO158.out⟩, ⟨by repeat (first | (with_reducible first | exact HB.out | apply below_alloc | apply pw_below_drewN | apply below_drew1) | exact HB.out)⟩⟩
            · rw [if_neg c8] at H
              exact absurd H (by simp)
          · rw [if_neg c7] at H
            have c7b0 : (t154 == a2) = false := by simpa using c7
            (try (have c7b1 : decide (t154 = a2) = false := by simpa using c7))
            (try (have c7b2 : (t154 == a2) = false := by simpa using c7))
            (try (have c7b3 : ¬ (t154 = a2) := by simpa using c7))
            clear c7
            have H' := Aside0.mk H
            clear H
            have p153 : 0 ≤ (x8_1 : Int) := of_decide_eq_true (by first | (with_reducible assumption) | assumption)
            have q153 : x8_1 < (l0.length : Int) := of_decide_eq_true (by first | (with_reducible assumption) | assumption)
            obtain ⟨ad153, e153, hx153_0⟩ := Kd.at_int HR0.out x8_1 p153 q153
            cases e153
            replace hx153_0 := (HB.out.cell (World.block_lt_of_cell? w _ hx153_0)).trans hx153_0
            replace p153 := eq_true p153
            replace q153 := eq_true q153
            go_wp2_with (first | ((with_reducible refine gate_callee (f := 24) rfl ?_); refine goesL_ (some 20) rfl rfl Tryd.func24 (by kernel_rfl) rfl #[.slice A1 l1.length c1, .int .i64 (rd l0 x8_1)] rfl (by (try simp only [List.map_toArray, List.map_cons, List.map_nil]); first | done | rfl | (simp only [List.length_drop, List.length_take]; rfl)) ?_; (with_reducible refine (spec_ISHas.calls k1 _ _ l1 (rd l0 x8_1) t154 _ ?side1 ?side2 A6.out).mono ?_); (case side1 => repeat (first | exact (Kd.C_below HR1.out HB.out) | (with_reducible refine Kd.C_alloc ?_ _) | (with_reducible refine Kd.C_drewN ?_ _) | (with_reducible refine Kd.C_drew ?_))); (case side2 => exact HC1.out); rintro e w' ⟨rfl, ⟨nd, rfl⟩⟩; refine ⟨_, rfl, ?_⟩))
            go_roundg k1
            case measure => have := HK1.out; omega
            case rel => exact ⟨(x7_1), (wrap64 (x8_1 + 1)), (by first | rfl | (simp; done) | (simp [*]; done)), H', ⟨by have := HK1.out; omega⟩, ⟨by (with_reducible repeat (first | apply Kd.R_alloc | apply Kd.R_drewN | apply Kd.R_drew)); exact HO_7.out⟩, ⟨by repeat (first | (with_reducible first | exact HB.out | apply below_alloc | apply pw_below_drewN | apply below_drew1) | exact HB.out)⟩⟩
        · rw [if_neg c5] at H
          exact absurd H (by simp)
      · rw [if_neg c4] at H
        have c4b0 : decide (x8_1 < (l0.length : Int)) = false := decide_eq_false c4
        clear c4
        obtain rfl := Option.some.inj H
        go_wp2
        go_ret
        exact ⟨_, by first | rfl | (simp [errW_none, errW_some] <;> rfl) | (simp [*, errW_none, errW_some] <;> rfl), by (with_reducible repeat (first | apply Kd.R_alloc | apply Kd.R_drewN | apply Kd.R_drew)); exact HO_7.out, by repeat (first | (with_reducible first | exact HB.out | apply below_alloc | apply pw_below_drewN | apply below_drew1) | exact HB.out)⟩

/-! ### spec_ISAll: function 31 -/
def spec_ISAll.l0 : Nat → List Int → List Int → Int → Option (List Int)
  | 0, _, _, _ => none
  | k + 1, x1, x5, x6 => if x6 < (x1.length : Int) then (if 0 ≤ x6 then ((spec_ISPut.f k x5 (rd x1 x6)).bind fun t160 => (spec_ISAll.l0 k x1 t160 (wrap64 (x6 + 1)))) else (none)) else (some x5)
def spec_ISAll.f (k : Nat) (l0 : List Int) (l1 : List Int) : Option (List Int) := spec_ISAll.l0 k l1 l0 0
theorem spec_ISAll.mono_l : ∀ k, (∀ y0 y1 y2, LeO (spec_ISAll.l0 k y0 y1 y2) (spec_ISAll.l0 (k + 1) y0 y1 y2))
  | 0 => fun _ _ _ r h => by simp [spec_ISAll.l0] at h
  | k + 1 => by
    have ih0 := spec_ISAll.mono_l k
    · intro y0 y1 y2
      unfold spec_ISAll.l0
      repeat' first
      | (with_reducible exact ih0 _ _ _)
      | (with_reducible exact spec_ISPut.mono _ _ _)
      | (with_reducible exact LeO.refl _)
      | (with_reducible exact LeO.none _)
      | (with_reducible refine LeO.ite ?_ ?_)
      | (with_reducible refine LeO.bind ?_ (fun _ => ?_))
      | exact ih0 _ _ _
      | exact spec_ISPut.mono _ _ _
      | exact LeO.none _
      | refine LeO.ite ?_ ?_
      | refine LeO.bind ?_ (fun _ => ?_)
theorem spec_ISAll.mono : ∀ a0 a1 k, LeO (spec_ISAll.f k a0 a1) (spec_ISAll.f (k + 1) a0 a1) := by
  intro a0 a1 k
  have ih0 := spec_ISAll.mono_l k
  unfold spec_ISAll.f
  repeat' first
      | (with_reducible exact ih0 _ _ _)
      | (with_reducible exact spec_ISPut.mono _ _ _)
      | (with_reducible exact LeO.refl _)
      | (with_reducible exact LeO.none _)
      | (with_reducible refine LeO.ite ?_ ?_)
      | (with_reducible refine LeO.bind ?_ (fun _ => ?_))
      | exact ih0 _ _ _
      | exact spec_ISPut.mono _ _ _
      | exact LeO.none _
      | refine LeO.ite ?_ ?_
      | refine LeO.bind ?_ (fun _ => ?_)
set_option maxHeartbeats 8000000 in
set_option maxRecDepth 100000 in
theorem spec_ISAll.calls (k : Nat) (P0_ : Nat → Prop) (A0 : Option Addr) (c0 : Nat) (l0 : List Int) (A1 : Option Addr) (c1 : Nat) (l1 : List Int) (r : List Int) (w : World) (hs0 : Kd.V (Kd.int .i64) 3 w w.heap.size (fun k_ => P0_ k_) (.slice A0 l0.length c0) l0) (hr1 : Kd.C (Kd.int .i64) w A1 l1.length l1) (hc1 : l1.length ≤ c1) (h : spec_ISAll.f k l0 l1 = some r) :
    Calls Tryd.prog 31 #[.slice A0 l0.length c0, .slice A1 l1.length c1] w fun e w' => ∃ v0_ : Value, e = .returned (v0_) ∧ Kd.V (Kd.int .i64) 3 w' w.heap.size (fun k_ => (P0_ k_ ∨ w.heap.size ≤ k_)) v0_ r ∧ Below w.heap.size w w' := by
  have HO0 := Aside0.mk (show Kd.V (Kd.int .i64) 3 w w.heap.size (fun k_ => (P0_ k_ ∨ w.heap.size ≤ k_)) (.slice A0 l0.length c0) l0 from Kd.V_mono hs0 (fun k_ hk => .inl hk))
  have HR1 := Aside0.mk hr1
  have HC1 := Aside0.mk hc1
  clear hr1 hc1
  have HB := Aside0.mk (Below.refl w.heap.size w)
  have H : (spec_ISAll.l0 k l1 l0 0) = some r := h
  clear h
  have H' := Aside0.mk H
  clear H
  go_enter Tryd.func31, Tryd.ntmps31
  go_wp2
  go_loopg [5, 6] k (fun kq v5 v6 w' => ∃ (x5_1 : List Int) (x6_1 : Int), v6 = .int .i64 x6_1 ∧ Aside0 (spec_ISAll.l0 kq l1 x5_1 x6_1 = some r) ∧ Aside0 (kq ≤ k) ∧ Aside0 (Kd.V (Kd.int .i64) 3 w' w.heap.size (fun k_ => (P0_ k_ ∨ w.heap.size ≤ k_)) v5 x5_1) ∧ Aside0 (Below w.heap.size w w'))
  case atStart => exact ⟨(l0), (0), (by first | rfl | (simp; done) | (simp [*]; done)), H', ⟨Nat.le_refl _⟩, ⟨by (with_reducible repeat (first | apply Kd.V_alloc | apply Kd.V_drewN | apply Kd.V_drew)); exact HO0.out⟩, ⟨by repeat (first | (with_reducible first | exact HB.out | apply below_alloc | apply pw_below_drewN | apply below_drew1) | exact HB.out)⟩⟩
  case round =>
    clear H'
    try clear c1
    try clear p2
    obtain ⟨x5_1, x6_1, rfl, HA, HK1, HO_5, HB⟩ := hrel
    cases gk with
    | zero => exact absurd HA.out (by simp [spec_ISAll.l0])
    | succ k1 =>
      have H := HA.out
      clear HA
      simp only [spec_ISAll.l0] at H
      by_cases c3 : x6_1 < (l1.length : Int)
      · rw [if_pos c3] at H
        have c3b0 : decide (x6_1 < (l1.length : Int)) = true := decide_eq_true c3
        clear c3
        by_cases c4 : 0 ≤ x6_1
        · rw [if_pos c4] at H
          have c4b0 : decide (0 ≤ x6_1) = true := decide_eq_true c4
          clear c4
          replace H := Option.bind_eq_some_iff.mp H
          obtain ⟨t160, A50, H⟩ := H
          replace H : (spec_ISAll.l0 k1 l1 t160 (wrap64 (x6_1 + 1))) = some r := H
          have A5 := Aside0.mk A50
          clear A50
          have H' := Aside0.mk H
          clear H
          have p159 : 0 ≤ (x6_1 : Int) := of_decide_eq_true (by first | (with_reducible assumption) | assumption)
          have q159 : x6_1 < (l1.length : Int) := of_decide_eq_true (by first | (with_reducible assumption) | assumption)
          obtain ⟨ad159, e159, hx159_0⟩ := Kd.at_int HR1.out x6_1 p159 q159
          cases e159
          replace hx159_0 := (HB.out.cell (World.block_lt_of_cell? w _ hx159_0)).trans hx159_0
          replace p159 := eq_true p159
          replace q159 := eq_true q159
          obtain ⟨Ao6, co6, eo6⟩ := Kd.V_slice HO_5.out
          subst eo6
          go_wp2_with (first | ((with_reducible refine gate_callee (f := 9) rfl ?_); refine goesL_ (some 19) rfl rfl Tryd.func9 (by kernel_rfl) rfl #[.slice Ao6 x5_1.length co6, .int .i64 (rd l1 x6_1)] rfl (by (try simp only [List.map_toArray, List.map_cons, List.map_nil]); first | done | rfl | (simp only [List.length_drop, List.length_take]; rfl)) ?_; (with_reducible refine (spec_ISPut.calls k1 _ _ x5_1 (rd l1 x6_1) t160 _ ?side1 ?side2 A5.out).mono ?_); (case side1 => repeat (first | exact (Kd.V_reads' HO_5.out).2.2 | (with_reducible refine Kd.C_alloc ?_ _) | (with_reducible refine Kd.C_drewN ?_ _) | (with_reducible refine Kd.C_drew ?_))); (case side2 => exact (Kd.V_reads' HO_5.out).2.1); rintro e w7 ⟨v161, rfl, ho0, hb⟩; refine ⟨_, rfl, ?_⟩; have n0_ := Aside0.mk (Kd.V_elder' (by (with_reducible repeat (first | apply Kd.V_alloc | apply Kd.V_drewN | apply Kd.V_drew)); exact HO_5.out) (Kd.R_base ho0) hb); have n1_ := Aside0.mk (Kd.R_lower (Kd.R_newM (M := fun k_ => (w.heap.size ≤ k_)) ho0 (below_size (by repeat (first | (with_reducible first | exact HB.out | apply below_alloc | apply pw_below_drewN | apply below_drew1) | exact HB.out))) (fun k_ h_ => h_)) (below_size (by repeat (first | (with_reducible first | exact HB.out | apply below_alloc | apply pw_below_drewN | apply below_drew1) | exact HB.out)))); have n2_ := Aside0.mk (below_step (by repeat (first | (with_reducible first | exact HB.out | apply below_alloc | apply pw_below_drewN | apply below_drew1) | exact HB.out)) hb); clear HO_5; clear HB; have HO_5 := n0_; have HO162 := n1_; have HB := n2_; clear n0_ n1_ n2_; (try clear hb); (try clear hb2); (try clear hk); (try clear hi); (try clear ho0)))
          go_roundg k1
          case measure => have := HK1.out; omega
          case rel => exact ⟨(t160), (wrap64 (x6_1 + 1)), (by first | rfl | (simp; done) | (simp [*]; done)), H', ⟨by have := HK1.out; omega⟩, ⟨Kd.V_mono (Kd.R_V (by (with_reducible repeat (first | apply Kd.R_alloc | apply Kd.R_drewN | apply Kd.R_drew)); exact Kd.R_mono HO162.out (fun _ hk => hk.1))) (fun k_ hk => by first | exact ⟨(.inr (hk.1)), hk.2⟩ | exact (.inr (hk)))⟩, ⟨by repeat (first | (with_reducible first | exact HB.out | apply below_alloc | apply pw_below_drewN | apply below_drew1) | exact HB.out)⟩⟩
        · rw [if_neg c4] at H
          exact absurd H (by simp)
      · rw [if_neg c3] at H
        have c3b0 : decide (x6_1 < (l1.length : Int)) = false := decide_eq_false c3
        clear c3
        obtain rfl := Option.some.inj H
        go_wp2
        go_ret
        exact ⟨_, by first | rfl | (simp [errW_none, errW_some] <;> rfl) | (simp [*, errW_none, errW_some] <;> rfl), by (with_reducible repeat (first | apply Kd.V_alloc | apply Kd.V_drewN | apply Kd.V_drew)); exact HO_5.out, by repeat (first | (with_reducible first | exact HB.out | apply below_alloc | apply pw_below_drewN | apply below_drew1) | exact HB.out)⟩

/-! ### spec_EQSets: function 16 -/
mutual
def spec_EQSets.l0 : Nat → List (List Int) → List (List Int) → Int → Option ((List (List Int)))
  | 0, _, _, _ => none
  | k + 1, x0, x3, x4 => if x4 < (x0.length : Int) then (if 0 ≤ x4 then ((spec_ISOf.f k (rd_L1 x0 x4)).bind fun t164 => (spec_EQSets.l1 k x0 x3 x4 t164 ([] : List (List Int)) 0)) else (none)) else (some x3)
def spec_EQSets.l1 : Nat → List (List Int) → List (List Int) → Int → List Int → List (List Int) → Int → Option ((List (List Int)))
  | 0, _, _, _, _, _, _ => none
  | k + 1, x0, x3, x4, x5, x6, x7 => if x7 < (x3.length : Int) then (if 0 ≤ x7 then ((spec_ISBoth.f k (rd_L1 x3 x7) x5 true).bind fun t171 => (if (t171.length : Int) > 0 then ((spec_ISAll.f k x5 (rd_L1 x3 x7)).bind fun t175 => (spec_EQSets.l1 k x0 x3 x4 t175 x6 (wrap64 (x7 + 1)))) else (if x6.length < 5864062014805 then (spec_EQSets.l1 k x0 x3 x4 x5 (x6 ++ [rd_L1 x3 x7]) (wrap64 (x7 + 1))) else (none)))) else (none)) else (if x6.length < 5864062014805 then (spec_EQSets.l0 k x0 (x6 ++ [x5]) (wrap64 (x4 + 1))) else (none))
end
def spec_EQSets.f (k : Nat) (l0 : List (List Int)) : Option ((List (List Int))) := spec_EQSets.l0 k l0 ([] : List (List Int)) 0
theorem spec_EQSets.mono_l : ∀ k, (∀ y0 y1 y2, LeO (spec_EQSets.l0 k y0 y1 y2) (spec_EQSets.l0 (k + 1) y0 y1 y2)) ∧ (∀ y0 y1 y2 y3 y4 y5, LeO (spec_EQSets.l1 k y0 y1 y2 y3 y4 y5) (spec_EQSets.l1 (k + 1) y0 y1 y2 y3 y4 y5))
  | 0 => ⟨fun _ _ _ r h => by simp [spec_EQSets.l0] at h, fun _ _ _ _ _ _ r h => by simp [spec_EQSets.l1] at h⟩
  | k + 1 => by
    obtain ⟨ih0, ih1⟩ := spec_EQSets.mono_l k
    refine ⟨?_, ?_⟩
    · intro y0 y1 y2
      unfold spec_EQSets.l0
      repeat' first
      | (with_reducible exact ih0 _ _ _)
      | (with_reducible exact ih1 _ _ _ _ _ _)
      | (with_reducible exact spec_ISAll.mono _ _ _)
      | (with_reducible exact spec_ISBoth.mono _ _ _ _)
      | (with_reducible exact spec_ISOf.mono _ _)
      | (with_reducible exact LeO.refl _)
      | (with_reducible exact LeO.none _)
      | (with_reducible refine LeO.ite ?_ ?_)
      | (with_reducible refine LeO.bind ?_ (fun _ => ?_))
      | exact ih0 _ _ _
      | exact ih1 _ _ _ _ _ _
      | exact spec_ISAll.mono _ _ _
      | exact spec_ISBoth.mono _ _ _ _
      | exact spec_ISOf.mono _ _
      | exact LeO.none _
      | refine LeO.ite ?_ ?_
      | refine LeO.bind ?_ (fun _ => ?_)
    · intro y0 y1 y2 y3 y4 y5
      unfold spec_EQSets.l1
      repeat' first
      | (with_reducible exact ih0 _ _ _)
      | (with_reducible exact ih1 _ _ _ _ _ _)
      | (with_reducible exact spec_ISAll.mono _ _ _)
      | (with_reducible exact spec_ISBoth.mono _ _ _ _)
      | (with_reducible exact spec_ISOf.mono _ _)
      | (with_reducible exact LeO.refl _)
      | (with_reducible exact LeO.none _)
      | (with_reducible refine LeO.ite ?_ ?_)
      | (with_reducible refine LeO.bind ?_ (fun _ => ?_))
      | exact ih0 _ _ _
      | exact ih1 _ _ _ _ _ _
      | exact spec_ISAll.mono _ _ _
      | exact spec_ISBoth.mono _ _ _ _
      | exact spec_ISOf.mono _ _
      | exact LeO.none _
      | refine LeO.ite ?_ ?_
      | refine LeO.bind ?_ (fun _ => ?_)
theorem spec_EQSets.mono : ∀ a0 k, LeO (spec_EQSets.f k a0) (spec_EQSets.f (k + 1) a0) := by
  intro a0 k
  obtain ⟨ih0, ih1⟩ := spec_EQSets.mono_l k
  unfold spec_EQSets.f
  repeat' first
      | (with_reducible exact ih0 _ _ _)
      | (with_reducible exact ih1 _ _ _ _ _ _)
      | (with_reducible exact spec_ISAll.mono _ _ _)
      | (with_reducible exact spec_ISBoth.mono _ _ _ _)
      | (with_reducible exact spec_ISOf.mono _ _)
      | (with_reducible exact LeO.refl _)
      | (with_reducible exact LeO.none _)
      | (with_reducible refine LeO.ite ?_ ?_)
      | (with_reducible refine LeO.bind ?_ (fun _ => ?_))
      | exact ih0 _ _ _
      | exact ih1 _ _ _ _ _ _
      | exact spec_ISAll.mono _ _ _
      | exact spec_ISBoth.mono _ _ _ _
      | exact spec_ISOf.mono _ _
      | exact LeO.none _
      | refine LeO.ite ?_ ?_
      | refine LeO.bind ?_ (fun _ => ?_)
set_option maxHeartbeats 8000000 in
set_option maxRecDepth 100000 in
theorem spec_EQSets.calls (k : Nat) (A0 : Option Addr) (c0 : Nat) (l0 : List (List Int)) (r : List (List Int)) (w : World) (hr0 : Kd.C (Kd.slice 3 (Kd.int .i64)) w A0 l0.length l0) (hc0 : l0.length ≤ c0) (h : spec_EQSets.f k l0 = some r) :
    Calls Tryd.prog 16 #[.slice A0 l0.length c0] w fun e w' => ∃ v0_ : Value, e = .returned (v0_) ∧ Kd.N (Kd.slice 3 (Kd.int .i64)) 22 w' w.heap.size (fun k_ => (w.heap.size ≤ k_)) v0_ r ∧ Below w.heap.size w w' := by
  have HR0 := Aside0.mk hr0
  have HC0 := Aside0.mk hc0
  clear hr0 hc0
  have HB := Aside0.mk (Below.refl w.heap.size w)
  have H : (spec_EQSets.l0 k l0 ([] : List (List Int)) 0) = some r := h
  clear h
  have H' := Aside0.mk H
  clear H
  go_enter Tryd.func16, Tryd.ntmps16
  go_wp2
  go_loopg [3, 4] k (fun kq v3 v4 w' => ∃ (x3_1 : List (List Int)) (x4_1 : Int), v4 = .int .i64 x4_1 ∧ Aside0 (spec_EQSets.l0 kq l0 x3_1 x4_1 = some r) ∧ Aside0 (kq ≤ k) ∧ Aside0 (Kd.N (Kd.slice 3 (Kd.int .i64)) 22 w' w.heap.size (fun k_ => (w.heap.size ≤ k_)) v3 x3_1) ∧ Aside0 (Below w.heap.size w w'))
  case atStart => exact ⟨(([] : List (List Int))), (0), (by first | rfl | (simp; done) | (simp [*]; done)), H', ⟨Nat.le_refl _⟩, ⟨by first | exact Kd.S_nil _ _ _ _ _ | exact Kd.N_nil _ _ _ _ _ | exact Kd.V_nil _ _ _ _ _ | exact Kd.Q_nil _ _ _ _ _ | exact Kd.R_nil _ _ _ _ _⟩, ⟨by repeat (first | (with_reducible first | exact HB.out | apply below_alloc | apply pw_below_drewN | apply below_drew1) | exact HB.out)⟩⟩
  case round =>
    clear H'
    try clear c1
    obtain ⟨x3_1, x4_1, rfl, HA, HK1, HO_3, HB⟩ := hrel
    cases gk with
    | zero => exact absurd HA.out (by simp [spec_EQSets.l0])
    | succ k1 =>
      have H := HA.out
      clear HA
      simp only [spec_EQSets.l0] at H
      by_cases c2 : x4_1 < (l0.length : Int)
      · rw [if_pos c2] at H
        have c2b0 : decide (x4_1 < (l0.length : Int)) = true := decide_eq_true c2
        clear c2
        by_cases c3 : 0 ≤ x4_1
        · rw [if_pos c3] at H
          have c3b0 : decide (0 ≤ x4_1) = true := decide_eq_true c3
          clear c3
          replace H := Option.bind_eq_some_iff.mp H
          obtain ⟨t164, A40, H⟩ := H
          replace H : (spec_EQSets.l1 k1 l0 x3_1 x4_1 t164 ([] : List (List Int)) 0) = some r := H
          have A4 := Aside0.mk A40
          clear A40
          have H' := Aside0.mk H
          clear H
          have p163 : 0 ≤ (x4_1 : Int) := of_decide_eq_true (by first | (with_reducible assumption) | assumption)
          have q163 : x4_1 < (l0.length : Int) := of_decide_eq_true (by first | (with_reducible assumption) | assumption)
          obtain ⟨ad163, A163_0, c163_0, e163, hx163_0, hl163_0, hi163_0⟩ := at_L1 HR0.out x4_1 p163 q163
          cases e163
          replace hx163_0 := (HB.out.cell (World.block_lt_of_cell? w _ hx163_0)).trans hx163_0
          have HR163_0 := Aside0.mk hi163_0
          have HC163_0 := Aside0.mk hl163_0
          clear hi163_0 hl163_0
          replace p163 := eq_true p163
          replace q163 := eq_true q163
          go_wp2_with (first | ((with_reducible refine gate_callee (f := 25) rfl ?_); refine goesL_ (some 18) rfl rfl Tryd.func25 (by kernel_rfl) rfl #[.slice A163_0 (rd_L1 l0 x4_1).length c163_0] rfl (by (try simp only [List.map_toArray, List.map_cons, List.map_nil]); first | done | rfl | (simp only [List.length_drop, List.length_take]; rfl)) ?_; (with_reducible refine (spec_ISOf.calls k1 _ _ (rd_L1 l0 x4_1) t164 _ ?side1 ?side2 A4.out).mono ?_); (case side1 => repeat (first | exact (Kd.C_below HR163_0.out HB.out) | (with_reducible refine Kd.C_alloc ?_ _) | (with_reducible refine Kd.C_drewN ?_ _) | (with_reducible refine Kd.C_drew ?_))); (case side2 => exact HC163_0.out); rintro e w5 ⟨v165, rfl, ho0, hb⟩; refine ⟨_, rfl, ?_⟩; have n0_ := Aside0.mk (Kd.N_elder' (by (with_reducible repeat (first | apply Kd.N_alloc | apply Kd.N_drewN | apply Kd.N_drew)); exact HO_3.out) (Kd.R_base ho0) hb); have n1_ := Aside0.mk (Kd.R_lower (Kd.R_newM (M := fun k_ => (w.heap.size ≤ k_)) ho0 (below_size (by repeat (first | (with_reducible first | exact HB.out | apply below_alloc | apply pw_below_drewN | apply below_drew1) | exact HB.out))) (fun k_ h_ => h_)) (below_size (by repeat (first | (with_reducible first | exact HB.out | apply below_alloc | apply pw_below_drewN | apply below_drew1) | exact HB.out)))); have n2_ := Aside0.mk (below_step (by repeat (first | (with_reducible first | exact HB.out | apply below_alloc | apply pw_below_drewN | apply below_drew1) | exact HB.out)) hb); clear HO_3; clear HB; have HO_3 := n0_; have HO166 := n1_; have HB := n2_; clear n0_ n1_ n2_; (try clear hb); (try clear hb2); (try clear hk); (try clear hi); (try clear ho0)))
          go_loopg [5, 6, 7] k1 (fun kq v5 v6 v7 w' => ∃ (x5_2 : List Int) (x6_2 : List (List Int)) (x7_2 : Int), v7 = .int .i64 x7_2 ∧ Aside0 (spec_EQSets.l1 kq l0 x3_1 x4_1 x5_2 x6_2 x7_2 = some r) ∧ Aside0 (kq ≤ k1) ∧ Aside0 (Kd.N (Kd.slice 3 (Kd.int .i64)) 22 w' w.heap.size (fun k_ => (w.heap.size ≤ k_) ∧ some k_ ≠ (v6 : Value).ownBlock) u3 x3_1) ∧ Aside0 (Kd.V (Kd.int .i64) 3 w' w.heap.size (fun k_ => (w.heap.size ≤ k_) ∧ some k_ ≠ (u3 : Value).ownBlock ∧ some k_ ≠ (v6 : Value).ownBlock) v5 x5_2) ∧ Aside0 (Kd.N (Kd.slice 3 (Kd.int .i64)) 22 w' w.heap.size (fun k_ => (w.heap.size ≤ k_) ∧ some k_ ≠ (u3 : Value).ownBlock) v6 x6_2) ∧ Aside0 (Below w.heap.size w w'))
          case atStart => exact ⟨(t164), (([] : List (List Int))), (0), (by first | rfl | (simp; done) | (simp [*]; done)), H', ⟨Nat.le_refl _⟩, ⟨by (with_reducible repeat (first | apply Kd.N_alloc | apply Kd.N_drewN | apply Kd.N_drew)); exact Kd.N_mono HO_3.out (fun _ hk => ⟨hk.1, (by simp [Value.ownBlock])⟩)⟩, ⟨Kd.R_V (by (with_reducible repeat (first | apply Kd.R_alloc | apply Kd.R_drewN | apply Kd.R_drew)); exact Kd.R_mono (Kd.R_apart' HO166.out (Kd.N_typed HO_3.out) (by decide)) (fun _ hk => ⟨hk.1.1, ⟨hk.2, (by simp [Value.ownBlock])⟩⟩))⟩, ⟨by first | exact Kd.S_nil _ _ _ _ _ | exact Kd.N_nil _ _ _ _ _ | exact Kd.V_nil _ _ _ _ _ | exact Kd.Q_nil _ _ _ _ _ | exact Kd.R_nil _ _ _ _ _⟩, ⟨by repeat (first | (with_reducible first | exact HB.out | apply below_alloc | apply pw_below_drewN | apply below_drew1) | exact HB.out)⟩⟩
          case round =>
            clear H'
            try clear c1
            try clear p1
            try clear q1
            try clear hx1
            try clear c2
            try clear c2b0
            try clear p2
            try clear c3
            try clear c3b0
            try clear hx163_0
            try clear p163
            try clear q163
            obtain ⟨x5_2, x6_2, x7_2, rfl, HA, HK2, HO_3, HO_5, HO_6, HB⟩ := hrel
            cases gk with
            | zero => exact absurd HA.out (by simp [spec_EQSets.l1])
            | succ k2 =>
              have H := HA.out
              clear HA
              simp only [spec_EQSets.l1] at H
              by_cases c6 : x7_2 < (x3_1.length : Int)
              · rw [if_pos c6] at H
                have c6b0 : decide (x7_2 < (x3_1.length : Int)) = true := decide_eq_true c6
                clear c6
                by_cases c7 : 0 ≤ x7_2
                · rw [if_pos c7] at H
                  have c7b0 : decide (0 ≤ x7_2) = true := decide_eq_true c7
                  clear c7
                  replace H := Option.bind_eq_some_iff.mp H
                  obtain ⟨t171, A80, H⟩ := H
                  replace H : (if (t171.length : Int) > 0 then ((spec_ISAll.f k2 x5_2 (rd_L1 x3_1 x7_2)).bind fun t175 => (spec_EQSets.l1 k2 l0 x3_1 x4_1 t175 x6_2 (wrap64 (x7_2 + 1)))) else (if x6_2.length < 5864062014805 then (spec_EQSets.l1 k2 l0 x3_1 x4_1 x5_2 (x6_2 ++ [rd_L1 x3_1 x7_2]) (wrap64 (x7_2 + 1))) else (none))) = some r := H
                  have A8 := Aside0.mk A80
                  clear A80
                  by_cases c9 : (t171.length : Int) > 0
                  · rw [if_pos c9] at H
                    have c9b0 : decide (0 < (t171.length : Int)) = true := decide_eq_true c9
                    have c9b1 : decide (0 < t171.length) = true := decide_eq_true (by omega)
                    clear c9
                    replace H := Option.bind_eq_some_iff.mp H
                    obtain ⟨t175, A100, H⟩ := H
                    replace H : (spec_EQSets.l1 k2 l0 x3_1 x4_1 t175 x6_2 (wrap64 (x7_2 + 1))) = some r := H
                    have A10 := Aside0.mk A100
                    clear A100
                    have H' := Aside0.mk H
                    clear H
                    obtain ⟨Ao11, co11, eo11⟩ := Kd.N_slice HO_3.out
                    subst eo11
                    have p170 : 0 ≤ (x7_2 : Int) := of_decide_eq_true (by first | (with_reducible assumption) | assumption)
                    have q170 : x7_2 < (x3_1.length : Int) := of_decide_eq_true (by first | (with_reducible assumption) | assumption)
                    obtain ⟨ad170, A170_0, c170_0, e170, hx170_0, hl170_0, hi170_0⟩ := at_L1 (Kd.N_reads' HO_3.out).2.2 x7_2 p170 q170
                    cases e170
                    obtain ⟨ce170, hce170, hMe170, hcc170⟩ := Kd.N_get HO_3.out [] x7_2 p170 (by first | exact q170 | exact of_decide_eq_true (by first | (with_reducible assumption) | assumption) | (have e_ := (Kd.N_reads' HO_3.out).1; omega))
                    obtain ⟨ua170_0, uc170_0, rfl, ul170_0, ge170_0⟩ := Kd.FK_slice_open hMe170
                    have hv170_0 := hcc170 0 _ rfl
                    rw [Nat.add_zero, show ((Kd.slice 3 (Kd.int .i64))).sz = 1 from rfl, Nat.mul_one] at hv170_0
                    replace hv170_0 := Option.some.inj (hv170_0.symm.trans hx170_0)
                    injection hv170_0 with hva_ hvn_ hvc_
                    rw [hva_] at ge170_0
                    rw [hvc_] at ul170_0
                    have HL170_0 := Aside0.mk (show Kd.V (Kd.int .i64) 3 _ w.heap.size _ _ (rd_L1 x3_1 x7_2) from Kd.V_mk ul170_0 ge170_0)
                    clear hva_ hvn_ hvc_ ge170_0 ul170_0
                    clear hcc170 hce170
                    have HR170_0 := Aside0.mk hi170_0
                    have HC170_0 := Aside0.mk hl170_0
                    clear hi170_0 hl170_0
                    replace p170 := eq_true p170
                    replace q170 := eq_true q170
                    obtain ⟨Ao12, co12, eo12⟩ := Kd.V_slice HO_5.out
                    subst eo12
                    go_wp2_with (first | ((with_reducible refine gate_callee (f := 11) rfl ?_); refine goesL_ (some 30) rfl rfl Tryd.func11 (by kernel_rfl) rfl #[.slice A170_0 (rd_L1 x3_1 x7_2).length c170_0, .slice Ao12 x5_2.length co12, .bool true] rfl (by (try simp only [List.map_toArray, List.map_cons, List.map_nil]); first | done | rfl | (simp only [List.length_drop, List.length_take]; rfl)) ?_; (with_reducible refine (spec_ISBoth.calls k2 _ _ (rd_L1 x3_1 x7_2) _ _ x5_2 true t171 _ ?side1 ?side2 ?side3 ?side4 A8.out).mono ?_); (case side1 => repeat (first | exact (by repeat (first | (with_reducible exact HR170_0.out) | (with_reducible refine Kd.C_alloc ?_ _) | (with_reducible refine Kd.C_drewN ?_ _) | (with_reducible refine Kd.C_drew ?_) | exact HR170_0.out)) | (with_reducible refine Kd.C_alloc ?_ _) | (with_reducible refine Kd.C_drewN ?_ _) | (with_reducible refine Kd.C_drew ?_))); (case side2 => exact HC170_0.out); (case side3 => repeat (first | exact (Kd.V_reads' HO_5.out).2.2 | (with_reducible refine Kd.C_alloc ?_ _) | (with_reducible refine Kd.C_drewN ?_ _) | (with_reducible refine Kd.C_drew ?_))); (case side4 => exact (Kd.V_reads' HO_5.out).2.1); rintro e w13 ⟨v172, rfl, ho0, hb⟩; refine ⟨_, rfl, ?_⟩; have n0_ := Aside0.mk (Kd.N_elder' (by (with_reducible repeat (first | apply Kd.N_alloc | apply Kd.N_drewN | apply Kd.N_drew)); exact HO_3.out) (Kd.R_base ho0) hb); have n1_ := Aside0.mk (Kd.V_elder' (by (with_reducible repeat (first | apply Kd.V_alloc | apply Kd.V_drewN | apply Kd.V_drew)); exact HO_5.out) (Kd.R_base ho0) hb); have n2_ := Aside0.mk (Kd.N_elder' (by (with_reducible repeat (first | apply Kd.N_alloc | apply Kd.N_drewN | apply Kd.N_drew)); exact HO_6.out) (Kd.R_base ho0) hb); have n3_ := Aside0.mk (Kd.V_elder' (by (with_reducible repeat (first | apply Kd.V_alloc | apply Kd.V_drewN | apply Kd.V_drew)); exact HL170_0.out) (Kd.R_base ho0) hb); have n4_ := Aside0.mk (Kd.R_lower (Kd.R_newM (M := fun k_ => (w.heap.size ≤ k_)) ho0 (below_size (by repeat (first | (with_reducible first | exact HB.out | apply below_alloc | apply pw_below_drewN | apply below_drew1) | exact HB.out))) (fun k_ h_ => h_)) (below_size (by repeat (first | (with_reducible first | exact HB.out | apply below_alloc | apply pw_below_drewN | apply below_drew1) | exact HB.out)))); have n5_ := Aside0.mk (Kd.C_below (by repeat (first | (with_reducible exact HR170_0.out) | (with_reducible refine Kd.C_alloc ?_ _) | (with_reducible refine Kd.C_drewN ?_ _) | (with_reducible refine Kd.C_drew ?_) | exact HR170_0.out)) hb); have n6_ := Aside0.mk (below_step (by repeat (first | (with_reducible first | exact HB.out | apply below_alloc | apply pw_below_drewN | apply below_drew1) | exact HB.out)) hb); clear HO_3; clear HO_5; clear HO_6; clear HL170_0; clear HR170_0; clear HB; have HO_3 := n0_; have HO_5 := n1_; have HO_6 := n2_; have HL170_0 := n3_; have HO173 := n4_; have HR170_0 := n5_; have HB := n6_; clear n0_ n1_ n2_ n3_ n4_ n5_ n6_; (try clear hb); (try clear hb2); (try clear hk); (try clear hi); (try clear ho0); obtain ⟨Ao14, co14, eo14⟩ := Kd.R_slice HO173.out; subst eo14; have p174 : 0 ≤ (x7_2 : Int) := of_decide_eq_true (by first | (with_reducible assumption) | assumption); have q174 : x7_2 < (x3_1.length : Int) := of_decide_eq_true (by first | (with_reducible assumption) | assumption); obtain ⟨ad174, A174_0, c174_0, e174, hx174_0, hl174_0, hi174_0⟩ := at_L1 (Kd.N_reads' HO_3.out).2.2 x7_2 p174 q174; obtain rfl : ad170 = ad174 := (by injection e174); obtain ⟨ce174, hce174, hMe174, hcc174⟩ := Kd.N_get HO_3.out [] x7_2 p174 (by first | exact q174 | exact of_decide_eq_true (by first | (with_reducible assumption) | assumption) | (have e_ := (Kd.N_reads' HO_3.out).1; omega)); obtain ⟨ua174_0, uc174_0, rfl, ul174_0, ge174_0⟩ := Kd.FK_slice_open hMe174; have hv174_0 := hcc174 0 _ rfl; rw [Nat.add_zero, show ((Kd.slice 3 (Kd.int .i64))).sz = 1 from rfl, Nat.mul_one] at hv174_0; replace hv174_0 := Option.some.inj (hv174_0.symm.trans hx174_0); injection hv174_0 with hva_ hvn_ hvc_; rw [hva_] at ge174_0; rw [hvc_] at ul174_0; have HL174_0 := Aside0.mk (show Kd.V (Kd.int .i64) 3 _ w.heap.size _ _ (rd_L1 x3_1 x7_2) from Kd.V_mk ul174_0 ge174_0); clear hva_ hvn_ hvc_ ge174_0 ul174_0; clear hcc174 hce174; have HR174_0 := Aside0.mk hi174_0; have HC174_0 := Aside0.mk hl174_0; clear hi174_0 hl174_0; replace p174 := eq_true p174; replace q174 := eq_true q174) | ((with_reducible refine gate_callee (f := 31) rfl ?_); refine goesL_ (some 38) rfl rfl Tryd.func31 (by kernel_rfl) rfl #[.slice Ao12 x5_2.length co12, .slice A174_0 (rd_L1 x3_1 x7_2).length c174_0] rfl (by (try simp only [List.map_toArray, List.map_cons, List.map_nil]); first | done | rfl | (simp only [List.length_drop, List.length_take]; rfl)) ?_; (with_reducible refine (spec_ISAll.calls k2 (fun k_ => (((w.heap.size ≤ k_) ∧ (some k_ ≠ (.slice (some ad170) x3_1.length co11 : Value).ownBlock ∧ some k_ ≠ (u6 : Value).ownBlock)) ∧ some k_ ≠ (.slice Ao14 t171.length co14 : Value).ownBlock)) _ _ x5_2 _ _ (rd_L1 x3_1 x7_2) t175 _ ?side1 ?side2 ?side3 A10.out).mono ?_); (case side1 => exact HO_5.out); (case side2 => repeat (first | exact (by repeat (first | (with_reducible exact HR174_0.out) | (with_reducible refine Kd.C_alloc ?_ _) | (with_reducible refine Kd.C_drewN ?_ _) | (with_reducible refine Kd.C_drew ?_) | exact HR174_0.out)) | (with_reducible refine Kd.C_alloc ?_ _) | (with_reducible refine Kd.C_drewN ?_ _) | (with_reducible refine Kd.C_drew ?_))); (case side3 => exact HC174_0.out); rintro e w15 ⟨v176, rfl, ho0, hb⟩; refine ⟨_, rfl, ?_⟩; have n0_ := Aside0.mk (Kd.N_below (by (with_reducible repeat (first | apply Kd.N_alloc | apply Kd.N_drewN | apply Kd.N_drew)); exact HO_3.out) hb); have n1_ := Aside0.mk (Kd.V_below (by (with_reducible repeat (first | apply Kd.V_alloc | apply Kd.V_drewN | apply Kd.V_drew)); exact HO_5.out) hb); have n2_ := Aside0.mk (Kd.N_below (by (with_reducible repeat (first | apply Kd.N_alloc | apply Kd.N_drewN | apply Kd.N_drew)); exact HO_6.out) hb); have n3_ := Aside0.mk (Kd.V_below (by (with_reducible repeat (first | apply Kd.V_alloc | apply Kd.V_drewN | apply Kd.V_drew)); exact HL170_0.out) hb); have n4_ := Aside0.mk (Kd.R_below (by (with_reducible repeat (first | apply Kd.R_alloc | apply Kd.R_drewN | apply Kd.R_drew)); exact HO173.out) hb); have n5_ := Aside0.mk (Kd.V_below (by (with_reducible repeat (first | apply Kd.V_alloc | apply Kd.V_drewN | apply Kd.V_drew)); exact HL174_0.out) hb); have n6_ := Aside0.mk (Kd.V_lower (Kd.V_mono (ok' := fun k_ => (w.heap.size ≤ k_) ∧ some k_ ≠ (.slice (some ad170) x3_1.length co11 : Value).ownBlock ∧ some k_ ≠ (u6 : Value).ownBlock ∧ some k_ ≠ (.slice Ao14 t171.length co14 : Value).ownBlock) ho0 (fun k_ hk_ => ⟨Or.elim hk_ (fun hs_ => hs_.1.1) (fun hn_ => (Nat.le_trans (below_size (by repeat (first | (with_reducible first | exact HB.out | apply below_alloc | apply pw_below_drewN | apply below_drew1) | exact HB.out))) hn_)), Or.elim hk_ (fun hs_ => hs_.1.2.1) (fun hn_ => (Kd.fresh' (Kd.N_lt (by (with_reducible repeat (first | apply Kd.N_alloc | apply Kd.N_drewN | apply Kd.N_drew)); exact HO_3.out)) k_ hn_)), Or.elim hk_ (fun hs_ => hs_.1.2.2) (fun hn_ => (Kd.fresh' (Kd.N_lt (by (with_reducible repeat (first | apply Kd.N_alloc | apply Kd.N_drewN | apply Kd.N_drew)); exact HO_6.out)) k_ hn_)), Or.elim hk_ (fun hs_ => hs_.2) (fun hn_ => (Kd.fresh' (Kd.R_lt (by (with_reducible repeat (first | apply Kd.R_alloc | apply Kd.R_drewN | apply Kd.R_drew)); exact HO173.out)) k_ hn_))⟩)) (below_size (by repeat (first | (with_reducible first | exact HB.out | apply below_alloc | apply pw_below_drewN | apply below_drew1) | exact HB.out)))); have n7_ := Aside0.mk (Kd.C_below (by repeat (first | (with_reducible exact HR170_0.out) | (with_reducible refine Kd.C_alloc ?_ _) | (with_reducible refine Kd.C_drewN ?_ _) | (with_reducible refine Kd.C_drew ?_) | exact HR170_0.out)) hb); have n8_ := Aside0.mk (Kd.C_below (by repeat (first | (with_reducible exact HR174_0.out) | (with_reducible refine Kd.C_alloc ?_ _) | (with_reducible refine Kd.C_drewN ?_ _) | (with_reducible refine Kd.C_drew ?_) | exact HR174_0.out)) hb); have n9_ := Aside0.mk (below_step (by repeat (first | (with_reducible first | exact HB.out | apply below_alloc | apply pw_below_drewN | apply below_drew1) | exact HB.out)) hb); clear HO_3; clear HO_5; clear HO_6; clear HL170_0; clear HO173; clear HL174_0; clear HR170_0; clear HR174_0; clear HB; have HO_3 := n0_; have HO_5 := n1_; have HO_6 := n2_; have HL170_0 := n3_; have HO173 := n4_; have HL174_0 := n5_; have HO177 := n6_; have HR170_0 := n7_; have HR174_0 := n8_; have HB := n9_; clear n0_ n1_ n2_ n3_ n4_ n5_ n6_ n7_ n8_ n9_; (try clear hb); (try clear hb2); (try clear hk); (try clear hi); (try clear ho0)))
                    go_roundg k2
                    case measure => have := HK1.out; have := HK2.out; omega
                    case rel => exact ⟨(t175), (x6_2), (wrap64 (x7_2 + 1)), (by first | rfl | (simp; done) | (simp [*]; done)), H', ⟨by have := HK1.out; have := HK2.out; omega⟩, ⟨by (with_reducible repeat (first | apply Kd.N_alloc | apply Kd.N_drewN | apply Kd.N_drew)); exact Kd.N_mono HO_3.out (fun _ hk => ⟨hk.1.1, hk.1.2⟩)⟩, ⟨by (with_reducible repeat (first | apply Kd.V_alloc | apply Kd.V_drewN | apply Kd.V_drew)); exact Kd.V_mono HO177.out (fun _ hk => ⟨hk.1, ⟨hk.2.1, hk.2.2.1⟩⟩)⟩, ⟨by (with_reducible repeat (first | apply Kd.N_alloc | apply Kd.N_drewN | apply Kd.N_drew)); exact Kd.N_mono HO_6.out (fun _ hk => ⟨hk.1.1, hk.1.2⟩)⟩, ⟨by repeat (first | (with_reducible first | exact HB.out | apply below_alloc | apply pw_below_drewN | apply below_drew1) | exact HB.out)⟩⟩
                  · rw [if_neg c9] at H
                    have c9b0 : decide (0 < (t171.length : Int)) = false := decide_eq_false c9
                    have c9b1 : decide (0 < t171.length) = false := decide_eq_false (by omega)
                    clear c9
                    by_cases c16 : x6_2.length < 5864062014805
                    · rw [if_pos c16] at H
                      have LMc16 := Aside0.mk c16
                      clear c16
                      obtain ⟨y179, hy179⟩ : ∃ y_ : List (List Int), y_ = (x6_2 ++ [rd_L1 x3_1 x7_2]) := ⟨_, rfl⟩
                      replace H : (spec_EQSets.l1 k2 l0 x3_1 x4_1 x5_2 y179 (wrap64 (x7_2 + 1))) = some r := by first | (rw [hy179]; with_reducible exact H) | (have H2_ := (Option.bind_some _ _).symm.trans H; rw [hy179]; with_reducible exact H2_) | (have H2_ := (Option.bind_some _ _).symm.trans H; with_reducible exact H2_) | with_reducible exact H | (rw [hy179]; exact H) | exact H
                      have Ny179 := Aside0.mk hy179
                      clear hy179
                      have H' := Aside0.mk H
                      clear H
                      obtain ⟨Ao17, co17, eo17⟩ := Kd.N_slice HO_3.out
                      subst eo17
                      have p170 : 0 ≤ (x7_2 : Int) := of_decide_eq_true (by first | (with_reducible assumption) | assumption)
                      have q170 : x7_2 < (x3_1.length : Int) := of_decide_eq_true (by first | (with_reducible assumption) | assumption)
                      obtain ⟨ad170, A170_0, c170_0, e170, hx170_0, hl170_0, hi170_0⟩ := at_L1 (Kd.N_reads' HO_3.out).2.2 x7_2 p170 q170
                      cases e170
                      obtain ⟨ce170, hce170, hMe170, hcc170⟩ := Kd.N_get HO_3.out [] x7_2 p170 (by first | exact q170 | exact of_decide_eq_true (by first | (with_reducible assumption) | assumption) | (have e_ := (Kd.N_reads' HO_3.out).1; omega))
                      obtain ⟨ua170_0, uc170_0, rfl, ul170_0, ge170_0⟩ := Kd.FK_slice_open hMe170
                      have hv170_0 := hcc170 0 _ rfl
                      rw [Nat.add_zero, show ((Kd.slice 3 (Kd.int .i64))).sz = 1 from rfl, Nat.mul_one] at hv170_0
                      replace hv170_0 := Option.some.inj (hv170_0.symm.trans hx170_0)
                      injection hv170_0 with hva_ hvn_ hvc_
                      rw [hva_] at ge170_0
                      rw [hvc_] at ul170_0
                      have HL170_0 := Aside0.mk (show Kd.V (Kd.int .i64) 3 _ w.heap.size _ _ (rd_L1 x3_1 x7_2) from Kd.V_mk ul170_0 ge170_0)
                      clear hva_ hvn_ hvc_ ge170_0 ul170_0
                      clear hcc170 hce170
                      have HR170_0 := Aside0.mk hi170_0
                      have HC170_0 := Aside0.mk hl170_0
                      clear hi170_0 hl170_0
                      replace p170 := eq_true p170
                      replace q170 := eq_true q170
                      obtain ⟨Ao18, co18, eo18⟩ := Kd.V_slice HO_5.out
                      subst eo18
                      go_wp2_with (first | ((with_reducible refine gate_callee (f := 11) rfl ?_); refine goesL_ (some 30) rfl rfl Tryd.func11 (by kernel_rfl) rfl #[.slice A170_0 (rd_L1 x3_1 x7_2).length c170_0, .slice Ao18 x5_2.length co18, .bool true] rfl (by (try simp only [List.map_toArray, List.map_cons, List.map_nil]); first | done | rfl | (simp only [List.length_drop, List.length_take]; rfl)) ?_; (with_reducible refine (spec_ISBoth.calls k2 _ _ (rd_L1 x3_1 x7_2) _ _ x5_2 true t171 _ ?side1 ?side2 ?side3 ?side4 A8.out).mono ?_); (case side1 => repeat (first | exact (by repeat (first | (with_reducible exact HR170_0.out) | (with_reducible refine Kd.C_alloc ?_ _) | (with_reducible refine Kd.C_drewN ?_ _) | (with_reducible refine Kd.C_drew ?_) | exact HR170_0.out)) | (with_reducible refine Kd.C_alloc ?_ _) | (with_reducible refine Kd.C_drewN ?_ _) | (with_reducible refine Kd.C_drew ?_))); (case side2 => exact HC170_0.out); (case side3 => repeat (first | exact (Kd.V_reads' HO_5.out).2.2 | (with_reducible refine Kd.C_alloc ?_ _) | (with_reducible refine Kd.C_drewN ?_ _) | (with_reducible refine Kd.C_drew ?_))); (case side4 => exact (Kd.V_reads' HO_5.out).2.1); rintro e w19 ⟨v172, rfl, ho0, hb⟩; refine ⟨_, rfl, ?_⟩; have n0_ := Aside0.mk (Kd.N_elder' (by (with_reducible repeat (first | apply Kd.N_alloc | apply Kd.N_drewN | apply Kd.N_drew)); exact HO_3.out) (Kd.R_base ho0) hb); have n1_ := Aside0.mk (Kd.V_elder' (by (with_reducible repeat (first | apply Kd.V_alloc | apply Kd.V_drewN | apply Kd.V_drew)); exact HO_5.out) (Kd.R_base ho0) hb); have n2_ := Aside0.mk (Kd.N_elder' (by (with_reducible repeat (first | apply Kd.N_alloc | apply Kd.N_drewN | apply Kd.N_drew)); exact HO_6.out) (Kd.R_base ho0) hb); have n3_ := Aside0.mk (Kd.V_elder' (by (with_reducible repeat (first | apply Kd.V_alloc | apply Kd.V_drewN | apply Kd.V_drew)); exact HL170_0.out) (Kd.R_base ho0) hb); have n4_ := Aside0.mk (Kd.R_lower (Kd.R_newM (M := fun k_ => (w.heap.size ≤ k_)) ho0 (below_size (by repeat (first | (with_reducible first | exact HB.out | apply below_alloc | apply pw_below_drewN | apply below_drew1) | exact HB.out))) (fun k_ h_ => h_)) (below_size (by repeat (first | (with_reducible first | exact HB.out | apply below_alloc | apply pw_below_drewN | apply below_drew1) | exact HB.out)))); have n5_ := Aside0.mk (Kd.C_below (by repeat (first | (with_reducible exact HR170_0.out) | (with_reducible refine Kd.C_alloc ?_ _) | (with_reducible refine Kd.C_drewN ?_ _) | (with_reducible refine Kd.C_drew ?_) | exact HR170_0.out)) hb); have n6_ := Aside0.mk (below_step (by repeat (first | (with_reducible first | exact HB.out | apply below_alloc | apply pw_below_drewN | apply below_drew1) | exact HB.out)) hb); clear HO_3; clear HO_5; clear HO_6; clear HL170_0; clear HR170_0; clear HB; have HO_3 := n0_; have HO_5 := n1_; have HO_6 := n2_; have HL170_0 := n3_; have HO173 := n4_; have HR170_0 := n5_; have HB := n6_; clear n0_ n1_ n2_ n3_ n4_ n5_ n6_; (try clear hb); (try clear hb2); (try clear hk); (try clear hi); (try clear ho0); obtain ⟨Ao20, co20, eo20⟩ := Kd.R_slice HO173.out; subst eo20; have p178 : 0 ≤ (x7_2 : Int) := of_decide_eq_true (by first | (with_reducible assumption) | assumption); have q178 : x7_2 < (x3_1.length : Int) := of_decide_eq_true (by first | (with_reducible assumption) | assumption); obtain ⟨ad178, A178_0, c178_0, e178, hx178_0, hl178_0, hi178_0⟩ := at_L1 (Kd.N_reads' HO_3.out).2.2 x7_2 p178 q178; obtain rfl : ad170 = ad178 := (by injection e178); obtain ⟨ce178, hce178, hMe178, hcc178⟩ := Kd.N_get HO_3.out [] x7_2 p178 (by first | exact q178 | exact of_decide_eq_true (by first | (with_reducible assumption) | assumption) | (have e_ := (Kd.N_reads' HO_3.out).1; omega)); obtain ⟨ua178_0, uc178_0, rfl, ul178_0, ge178_0⟩ := Kd.FK_slice_open hMe178; have hv178_0 := hcc178 0 _ rfl; rw [Nat.add_zero, show ((Kd.slice 3 (Kd.int .i64))).sz = 1 from rfl, Nat.mul_one] at hv178_0; replace hv178_0 := Option.some.inj (hv178_0.symm.trans hx178_0); injection hv178_0 with hva_ hvn_ hvc_; rw [hva_] at ge178_0; rw [hvc_] at ul178_0; have HL178_0 := Aside0.mk (show Kd.V (Kd.int .i64) 3 _ w.heap.size _ _ (rd_L1 x3_1 x7_2) from Kd.V_mk ul178_0 ge178_0); clear hva_ hvn_ hvc_ ge178_0 ul178_0; clear hcc178 hce178; have HR178_0 := Aside0.mk hi178_0; have HC178_0 := Aside0.mk hl178_0; clear hi178_0 hl178_0; replace p178 := eq_true p178; replace q178 := eq_true q178) | ((with_reducible refine gate_builtin (b := .append) (xs := #[.tmp 39, .tmp 44]) rfl ?_); at_builtin; refine Kd.N_append (Kd.slice 3 (Kd.int .i64)) (w0 := w) w.heap.size rfl (.tmp 39) (.tmp 44) 29 22 (.slice none 0 0) 24 rfl Tryd.underlying29 info22 rfl (by decide) (by omega) u6 x6_2 (rd_L1 x3_1 x7_2) [.slice A178_0 (rd_L1 x3_1 x7_2).length c178_0] (fun k_ => (w.heap.size ≤ k_) ∧ some k_ ≠ (.slice (some ad170) x3_1.length co17 : Value).ownBlock ∧ some k_ ≠ (.slice Ao20 t171.length co20 : Value).ownBlock) (fun k_ => ((fun k_ => (w.heap.size ≤ k_) ∧ some k_ ≠ (.slice (some ad170) x3_1.length co17 : Value).ownBlock ∧ some k_ ≠ (.slice Ao20 t171.length co20 : Value).ownBlock)) k_ ∧ some k_ ≠ (u6 : Value).ownBlock) rfl rfl ?aP (fun _ hk => hk) ?aF ?aO ?aB ?aS ?aL ?_; (case aP => exact (Kd.FK_slice_mk (Kd.V_reads' (Kd.V_mono (ok' := (fun k_ => ((fun k_ => (w.heap.size ≤ k_) ∧ some k_ ≠ (.slice (some ad170) x3_1.length co17 : Value).ownBlock ∧ some k_ ≠ (.slice Ao20 t171.length co20 : Value).ownBlock)) k_ ∧ some k_ ≠ (u6 : Value).ownBlock)) (HL178_0.out) (fun k_ hk => ⟨⟨hk.1.1.1, ⟨hk.2, hk.1.2⟩⟩, hk.1.1.2⟩))).2.1 (Kd.V_F (Kd.V_mono (ok' := (fun k_ => ((fun k_ => (w.heap.size ≤ k_) ∧ some k_ ≠ (.slice (some ad170) x3_1.length co17 : Value).ownBlock ∧ some k_ ≠ (.slice Ao20 t171.length co20 : Value).ownBlock)) k_ ∧ some k_ ≠ (u6 : Value).ownBlock)) (HL178_0.out) (fun k_ hk => ⟨⟨hk.1.1.1, ⟨hk.2, hk.1.2⟩⟩, hk.1.1.2⟩))))); (case aB => exact (by repeat (first | (with_reducible first | exact HB.out | apply below_alloc | apply pw_below_drewN | apply below_drew1) | exact HB.out))); (case aF => exact (fun k_ hk => ⟨(Nat.le_trans (below_size (by repeat (first | (with_reducible first | exact HB.out | apply below_alloc | apply pw_below_drewN | apply below_drew1) | exact HB.out))) hk), Kd.fresh' (Kd.N_lt (by (with_reducible repeat (first | apply Kd.N_alloc | apply Kd.N_drewN | apply Kd.N_drew)); exact HO_3.out)) k_ hk, Kd.fresh' (Kd.R_lt (by (with_reducible repeat (first | apply Kd.R_alloc | apply Kd.R_drewN | apply Kd.R_drew)); exact HO173.out)) k_ hk⟩)); (case aO => exact (by (with_reducible repeat (first | apply Kd.N_alloc | apply Kd.N_drewN | apply Kd.N_drew)); exact Kd.N_mono HO_6.out (fun _ hk => ⟨hk.1.1, ⟨hk.1.2, hk.2⟩⟩))); (case aS => exact (below_size (by repeat (first | (with_reducible first | exact HB.out | apply below_alloc | apply pw_below_drewN | apply below_drew1) | exact HB.out)))); (case aL => have := LMc16.out; omega); intro v180 w21 ho hb hg hat; rw [← Ny179.out] at ho; have n0_ := Aside0.mk (Kd.N_afterv (ok := (fun k_ => (w.heap.size ≤ k_) ∧ some k_ ≠ (.slice Ao20 t171.length co20 : Value).ownBlock)) (by (with_reducible repeat (first | apply Kd.N_alloc | apply Kd.N_drewN | apply Kd.N_drew)); exact Kd.N_mono HO_3.out (fun _ hk => ⟨⟨hk.1.1, hk.2⟩, hk.1.2⟩)) hg hat); have n1_ := Aside0.mk (Kd.V_afterv (ok := (fun k_ => (w.heap.size ≤ k_) ∧ some k_ ≠ (.slice (some ad170) x3_1.length co17 : Value).ownBlock ∧ some k_ ≠ (.slice Ao20 t171.length co20 : Value).ownBlock)) (by (with_reducible repeat (first | apply Kd.V_alloc | apply Kd.V_drewN | apply Kd.V_drew)); exact Kd.V_mono HO_5.out (fun _ hk => ⟨⟨hk.1.1, ⟨hk.1.2.1, hk.2⟩⟩, hk.1.2.2⟩)) hg hat); have n2_ := Aside0.mk (Kd.V_afterv (ok := (fun k_ => (w.heap.size ≤ k_) ∧ some k_ ≠ (.slice (some ad170) x3_1.length co17 : Value).ownBlock ∧ some k_ ≠ (.slice Ao20 t171.length co20 : Value).ownBlock)) (by (with_reducible repeat (first | apply Kd.V_alloc | apply Kd.V_drewN | apply Kd.V_drew)); exact Kd.V_mono HL170_0.out (fun _ hk => ⟨⟨hk.1.1.1, ⟨hk.1.2, hk.2⟩⟩, hk.1.1.2⟩)) hg hat); have n3_ := Aside0.mk (Kd.R_over' (by (with_reducible repeat (first | apply Kd.R_alloc | apply Kd.R_drewN | apply Kd.R_drew)); exact HO173.out) (Kd.N_typed (by (with_reducible repeat (first | apply Kd.N_alloc | apply Kd.N_drewN | apply Kd.N_drew)); exact HO_6.out)) (by decide) hg); have n4_ := Aside0.mk (Kd.V_afterv (ok := (fun k_ => (w.heap.size ≤ k_) ∧ some k_ ≠ (.slice (some ad170) x3_1.length co17 : Value).ownBlock ∧ some k_ ≠ (.slice Ao20 t171.length co20 : Value).ownBlock)) (by (with_reducible repeat (first | apply Kd.V_alloc | apply Kd.V_drewN | apply Kd.V_drew)); exact Kd.V_mono HL178_0.out (fun _ hk => ⟨⟨hk.1.1.1, ⟨hk.2, hk.1.2⟩⟩, hk.1.1.2⟩)) hg hat); have n5_ := Aside0.mk (hb); have n6_ := Aside0.mk (ho); clear HO_3; clear HO_5; clear HL170_0; clear HO173; clear HL178_0; clear HB; clear HO_6; have HO_3 := n0_; have HO_5 := n1_; have HL170_0 := n2_; have HO173 := n3_; have HL178_0 := n4_; have HB := n5_; have HO181 := n6_; clear n0_ n1_ n2_ n3_ n4_ n5_ n6_; clear ho hb hg hat))
                      go_roundg k2
                      case measure => have := HK1.out; have := HK2.out; omega
                      case rel => exact ⟨(x5_2), (y179), (wrap64 (x7_2 + 1)), (by first | rfl | (simp; done) | (simp [*]; done)), H', ⟨by have := HK1.out; have := HK2.out; omega⟩, ⟨by (with_reducible repeat (first | apply Kd.N_alloc | apply Kd.N_drewN | apply Kd.N_drew)); exact Kd.N_mono HO_3.out (fun _ hk => ⟨hk.1.1, hk.2⟩)⟩, ⟨by (with_reducible repeat (first | apply Kd.V_alloc | apply Kd.V_drewN | apply Kd.V_drew)); exact Kd.V_mono HO_5.out (fun _ hk => ⟨hk.1.1, ⟨hk.1.2.1, hk.2⟩⟩)⟩, ⟨by (with_reducible repeat (first | apply Kd.N_alloc | apply Kd.N_drewN | apply Kd.N_drew)); exact Kd.N_mono HO181.out (fun _ hk => ⟨hk.1, hk.2.1⟩)⟩, ⟨by repeat (first | (with_reducible first | exact HB.out | apply below_alloc | apply pw_below_drewN | apply below_drew1) | exact HB.out)⟩⟩
                    · rw [if_neg c16] at H
                      exact absurd H (by simp)
                · rw [if_neg c7] at H
                  exact absurd H (by simp)
              · rw [if_neg c6] at H
                have c6b0 : decide (x7_2 < (x3_1.length : Int)) = false := decide_eq_false c6
                clear c6
                by_cases c22 : x6_2.length < 5864062014805
                · rw [if_pos c22] at H
                  have LMc22 := Aside0.mk c22
                  clear c22
                  obtain ⟨y167, hy167⟩ : ∃ y_ : List (List Int), y_ = (x6_2 ++ [x5_2]) := ⟨_, rfl⟩
                  replace H : (spec_EQSets.l0 k2 l0 y167 (wrap64 (x4_1 + 1))) = some r := by first | (rw [hy167]; with_reducible exact H) | (have H2_ := (Option.bind_some _ _).symm.trans H; rw [hy167]; with_reducible exact H2_) | (have H2_ := (Option.bind_some _ _).symm.trans H; with_reducible exact H2_) | with_reducible exact H | (rw [hy167]; exact H) | exact H
                  have Ny167 := Aside0.mk hy167
                  clear hy167
                  have H' := Aside0.mk H
                  clear H
                  obtain ⟨Ao23, co23, eo23⟩ := Kd.N_slice HO_3.out
                  subst eo23
                  obtain ⟨Ao25, co25, eo25⟩ := Kd.V_slice HO_5.out
                  subst eo25
                  go_wp2_with (first | ((with_reducible refine gate_builtin (b := .append) (xs := #[.tmp 46, .tmp 48]) rfl ?_); at_builtin; refine Kd.N_append (Kd.slice 3 (Kd.int .i64)) (w0 := w) w.heap.size rfl (.tmp 46) (.tmp 48) 29 22 (.slice none 0 0) 24 rfl Tryd.underlying29 info22 rfl (by decide) (by omega) u6 x6_2 x5_2 [.slice Ao25 x5_2.length co25] (fun k_ => (w.heap.size ≤ k_) ∧ some k_ ≠ (.slice Ao23 x3_1.length co23 : Value).ownBlock) (fun k_ => ((fun k_ => (w.heap.size ≤ k_) ∧ some k_ ≠ (.slice Ao23 x3_1.length co23 : Value).ownBlock)) k_ ∧ some k_ ≠ (u6 : Value).ownBlock) rfl rfl ?aP (fun _ hk => hk) ?aF ?aO ?aB ?aS ?aL ?_; (case aP => exact (Kd.FK_slice_mk (Kd.V_reads' (Kd.V_mono (ok' := (fun k_ => ((fun k_ => (w.heap.size ≤ k_) ∧ some k_ ≠ (.slice Ao23 x3_1.length co23 : Value).ownBlock)) k_ ∧ some k_ ≠ (u6 : Value).ownBlock)) (HO_5.out) (fun k_ hk => ⟨⟨hk.1, hk.2.1⟩, hk.2.2⟩))).2.1 (Kd.V_F (Kd.V_mono (ok' := (fun k_ => ((fun k_ => (w.heap.size ≤ k_) ∧ some k_ ≠ (.slice Ao23 x3_1.length co23 : Value).ownBlock)) k_ ∧ some k_ ≠ (u6 : Value).ownBlock)) (HO_5.out) (fun k_ hk => ⟨⟨hk.1, hk.2.1⟩, hk.2.2⟩))))); (case aB => exact (by repeat (first | (with_reducible first | exact HB.out | apply below_alloc | apply pw_below_drewN | apply below_drew1) | exact HB.out))); (case aF => exact (fun k_ hk => ⟨(Nat.le_trans (below_size (by repeat (first | (with_reducible first | exact HB.out | apply below_alloc | apply pw_below_drewN | apply below_drew1) | exact HB.out))) hk), Kd.fresh' (Kd.N_lt (by (with_reducible repeat (first | apply Kd.N_alloc | apply Kd.N_drewN | apply Kd.N_drew)); exact HO_3.out)) k_ hk⟩)); (case aO => exact (by (with_reducible repeat (first | apply Kd.N_alloc | apply Kd.N_drewN | apply Kd.N_drew)); exact HO_6.out)); (case aS => exact (below_size (by repeat (first | (with_reducible first | exact HB.out | apply below_alloc | apply pw_below_drewN | apply below_drew1) | exact HB.out)))); (case aL => have := LMc22.out; omega); intro v168 w24 ho hb hg hat; rw [← Ny167.out] at ho; have n0_ := Aside0.mk (Kd.N_afterv (ok := (fun k_ => (w.heap.size ≤ k_))) (by (with_reducible repeat (first | apply Kd.N_alloc | apply Kd.N_drewN | apply Kd.N_drew)); exact HO_3.out) hg hat); have n1_ := Aside0.mk (Kd.V_afterv (ok := (fun k_ => (w.heap.size ≤ k_) ∧ some k_ ≠ (.slice Ao23 x3_1.length co23 : Value).ownBlock)) (by (with_reducible repeat (first | apply Kd.V_alloc | apply Kd.V_drewN | apply Kd.V_drew)); exact Kd.V_mono HO_5.out (fun _ hk => ⟨⟨hk.1, hk.2.1⟩, hk.2.2⟩)) hg hat); have n2_ := Aside0.mk (hb); have n3_ := Aside0.mk (ho); clear HO_3; clear HO_5; clear HB; clear HO_6; have HO_3 := n0_; have HO_5 := n1_; have HB := n2_; have HO169 := n3_; clear n0_ n1_ n2_ n3_; clear ho hb hg hat))
                  go_roundg k2
                  case measure => have := HK1.out; have := HK2.out; omega
                  case rel => exact ⟨(y167), (wrap64 (x4_1 + 1)), (by first | rfl | (simp; done) | (simp [*]; done)), H', ⟨by have := HK1.out; have := HK2.out; omega⟩, ⟨by (with_reducible repeat (first | apply Kd.N_alloc | apply Kd.N_drewN | apply Kd.N_drew)); exact Kd.N_mono HO169.out (fun _ hk => hk.1)⟩, ⟨by repeat (first | (with_reducible first | exact HB.out | apply below_alloc | apply pw_below_drewN | apply below_drew1) | exact HB.out)⟩⟩
                · rw [if_neg c22] at H
                  exact absurd H (by simp)
        · rw [if_neg c3] at H
          exact absurd H (by simp)
      · rw [if_neg c2] at H
        have c2b0 : decide (x4_1 < (l0.length : Int)) = false := decide_eq_false c2
        clear c2
        obtain rfl := Option.some.inj H
        go_wp2
        go_ret
        exact ⟨_, by first | rfl | (simp [errW_none, errW_some] <;> rfl) | (simp [*, errW_none, errW_some] <;> rfl), by (with_reducible repeat (first | apply Kd.N_alloc | apply Kd.N_drewN | apply Kd.N_drew)); exact HO_3.out, by repeat (first | (with_reducible first | exact HB.out | apply below_alloc | apply pw_below_drewN | apply below_drew1) | exact HB.out)⟩

/-! ### laws_FnEQSets: function 4 -/
def laws_FnEQSets.f (k : Nat) (l0 : List (List Int)) : Option (Bool) := (laws_zzFits7.f k l0).bind fun t182 => (if t182 = true then ((laws_eqSets.f k l0).bind fun t183 => ((impl_EQSets.f t183).bind fun t186 => ((spec_EQSets.f k t183).bind fun t189 => ((spec_EQSame.f k t186 t189).bind fun t192 => (some t192))))) else (some true))
theorem laws_FnEQSets.mono : ∀ a0 k, LeO (laws_FnEQSets.f k a0) (laws_FnEQSets.f (k + 1) a0) := by
  intro a0 k
  unfold laws_FnEQSets.f
  repeat' first
      | (with_reducible exact laws_eqSets.mono _ _)
      | (with_reducible exact laws_zzFits7.mono _ _)
      | (with_reducible exact spec_EQSame.mono _ _ _)
      | (with_reducible exact spec_EQSets.mono _ _)
      | (with_reducible exact LeO.refl _)
      | (with_reducible exact LeO.none _)
      | (with_reducible refine LeO.ite ?_ ?_)
      | (with_reducible refine LeO.bind ?_ (fun _ => ?_))
      | exact laws_eqSets.mono _ _
      | exact laws_zzFits7.mono _ _
      | exact spec_EQSame.mono _ _ _
      | exact spec_EQSets.mono _ _
      | exact LeO.none _
      | refine LeO.ite ?_ ?_
      | refine LeO.bind ?_ (fun _ => ?_)
set_option maxHeartbeats 8000000 in
set_option maxRecDepth 100000 in
theorem laws_FnEQSets.calls (k : Nat) (A0 : Option Addr) (c0 : Nat) (l0 : List (List Int)) (r : Bool) (w : World) (hr0 : Kd.C (Kd.slice 3 (Kd.int .i64)) w A0 l0.length l0) (hc0 : l0.length ≤ c0) (hg : Glob w) (h : laws_FnEQSets.f k l0 = some r) :
    Calls Tryd.prog 4 #[.slice A0 l0.length c0] w fun e w' => e = .returned (.bool r) ∧ Below w.heap.size w w' := by
  have HR0 := Aside0.mk hr0
  have HC0 := Aside0.mk hc0
  clear hr0 hc0
  have HB := Aside0.mk (Below.refl w.heap.size w)
  have H : ((laws_zzFits7.f k l0).bind fun t182 => (if t182 = true then ((laws_eqSets.f k l0).bind fun t183 => ((impl_EQSets.f t183).bind fun t186 => ((spec_EQSets.f k t183).bind fun t189 => ((spec_EQSame.f k t186 t189).bind fun t192 => (some t192))))) else (some true))) = some r := h
  clear h
  replace H := Option.bind_eq_some_iff.mp H
  obtain ⟨t182, A20, H⟩ := H
  replace H : (if t182 = true then ((laws_eqSets.f k l0).bind fun t183 => ((impl_EQSets.f t183).bind fun t186 => ((spec_EQSets.f k t183).bind fun t189 => ((spec_EQSame.f k t186 t189).bind fun t192 => (some t192))))) else (some true)) = some r := H
  have A2 := Aside0.mk A20
  clear A20
  by_cases c3 : t182 = true
  · subst c3
    have H1 : ((laws_eqSets.f k l0).bind fun t183 => ((impl_EQSets.f t183).bind fun t186 => ((spec_EQSets.f k t183).bind fun t189 => ((spec_EQSame.f k t186 t189).bind fun t192 => (some t192))))) = some r := by rw [if_pos rfl] at H; exact H
    clear H
    have H := H1
    clear H1
    replace H := Option.bind_eq_some_iff.mp H
    obtain ⟨t183, A40, H⟩ := H
    replace H : ((impl_EQSets.f t183).bind fun t186 => ((spec_EQSets.f k t183).bind fun t189 => ((spec_EQSame.f k t186 t189).bind fun t192 => (some t192)))) = some r := H
    have A4 := Aside0.mk A40
    clear A40
    replace H := Option.bind_eq_some_iff.mp H
    obtain ⟨t186, A50, H⟩ := H
    replace H : ((spec_EQSets.f k t183).bind fun t189 => ((spec_EQSame.f k t186 t189).bind fun t192 => (some t192))) = some r := H
    have A5 := Aside0.mk A50
    clear A50
    replace H := Option.bind_eq_some_iff.mp H
    obtain ⟨t189, A60, H⟩ := H
    replace H : ((spec_EQSame.f k t186 t189).bind fun t192 => (some t192)) = some r := H
    have A6 := Aside0.mk A60
    clear A60
    replace H := Option.bind_eq_some_iff.mp H
    obtain ⟨t192, A70, H⟩ := H
    replace H : (some t192) = some r := H
    have A7 := Aside0.mk A70
    clear A70
    obtain rfl := Option.some.inj H
    go_enter Tryd.func4, Tryd.ntmps4
    go_wp2_with (first | ((with_reducible refine gate_callee (f := 12) rfl ?_); refine goesL_ (some 5) rfl rfl Tryd.func12 (by kernel_rfl) rfl #[.slice A0 l0.length c0] rfl (by (try simp only [List.map_toArray, List.map_cons, List.map_nil]); first | done | rfl | (simp only [List.length_drop, List.length_take]; rfl)) ?_; (with_reducible refine (laws_zzFits7.calls k _ _ l0 true _ ?side1 ?side2 A2.out).mono ?_); (case side1 => repeat (first | exact HR0.out | (with_reducible refine Kd.C_alloc ?_ _) | (with_reducible refine Kd.C_drewN ?_ _) | (with_reducible refine Kd.C_drew ?_))); (case side2 => exact HC0.out); rintro e w' ⟨rfl, ⟨nd, rfl⟩⟩; refine ⟨_, rfl, ?_⟩) | ((with_reducible refine gate_callee (f := 13) rfl ?_); refine goesL_ (some 8) rfl rfl Tryd.func13 (by kernel_rfl) rfl #[.slice A0 l0.length c0] rfl (by (try simp only [List.map_toArray, List.map_cons, List.map_nil]); first | done | rfl | (simp only [List.length_drop, List.length_take]; rfl)) ?_; (with_reducible refine (laws_eqSets.calls k _ _ l0 t183 _ ?side1 ?side2 A4.out).mono ?_); (case side1 => repeat (first | exact HR0.out | (with_reducible refine Kd.C_alloc ?_ _) | (with_reducible refine Kd.C_drewN ?_ _) | (with_reducible refine Kd.C_drew ?_))); (case side2 => exact HC0.out); rintro e w8 ⟨v184, rfl, ho0, hb⟩; refine ⟨_, rfl, ?_⟩; have n0_ := Aside0.mk (Kd.N_lower (Kd.N_mono (ok' := fun k_ => True) (Kd.S_N (Kd.S_bound ho0)) (fun k_ hk_ => trivial)) (below_size (by repeat (first | (with_reducible first | exact HB.out | apply below_alloc | apply pw_below_drewN | apply below_drew1) | exact HB.out)))); have n1_ := Aside0.mk (below_step (by repeat (first | (with_reducible first | exact HB.out | apply below_alloc | apply pw_below_drewN | apply below_drew1) | exact HB.out)) hb); clear HB; have HO185 := n0_; have HB := n1_; clear n0_ n1_; (try clear hb); (try clear hb2); (try clear hk); (try clear hi); (try clear ho0); obtain ⟨Ao9, co9, eo9⟩ := Kd.N_slice HO185.out; subst eo9) | ((with_reducible refine gate_callee (f := 15) rfl ?_); refine goesL_ (some 10) rfl rfl Tryd.func15 (by kernel_rfl) rfl #[.slice Ao9 t183.length co9] rfl (by (try simp only [List.map_toArray, List.map_cons, List.map_nil]); first | done | rfl | (simp only [List.length_drop, List.length_take]; rfl)) ?_; (with_reducible refine (impl_EQSets.calls _ _ t183 t186 _ (Glob.later hg (by repeat (first | (with_reducible first | exact HB.out | apply below_alloc | apply pw_below_drewN | apply below_drew1) | exact HB.out))) ?side1 ?side2 A5.out).mono ?_); (case side1 => repeat (first | exact (Kd.N_reads' HO185.out).2.2 | (with_reducible refine Kd.C_alloc ?_ _) | (with_reducible refine Kd.C_drewN ?_ _) | (with_reducible refine Kd.C_drew ?_))); (case side2 => exact (Kd.N_reads' HO185.out).2.1); rintro e w10 ⟨v187, rfl, ho0, hb⟩; refine ⟨_, rfl, ?_⟩; have n0_ := Aside0.mk (Kd.N_elder' (by (with_reducible repeat (first | apply Kd.N_alloc | apply Kd.N_drewN | apply Kd.N_drew)); exact HO185.out) (Kd.S_base ho0) hb); have n1_ := Aside0.mk (Kd.N_lower (Kd.N_mono (ok' := fun k_ => some k_ ≠ (.slice Ao9 t183.length co9 : Value).ownBlock) (Kd.S_N (Kd.S_bound ho0)) (fun k_ hk_ => (Kd.fresh' (Kd.N_lt (by (with_reducible repeat (first | apply Kd.N_alloc | apply Kd.N_drewN | apply Kd.N_drew)); exact HO185.out)) k_ hk_.2.1))) (below_size (by repeat (first | (with_reducible first | exact HB.out | apply below_alloc | apply pw_below_drewN | apply below_drew1) | exact HB.out)))); have n2_ := Aside0.mk (below_step (by repeat (first | (with_reducible first | exact HB.out | apply below_alloc | apply pw_below_drewN | apply below_drew1) | exact HB.out)) hb); clear HO185; clear HB; have HO185 := n0_; have HO188 := n1_; have HB := n2_; clear n0_ n1_ n2_; (try clear hb); (try clear hb2); (try clear hk); (try clear hi); (try clear ho0)) | ((with_reducible refine gate_callee (f := 16) rfl ?_); refine goesL_ (some 12) rfl rfl Tryd.func16 (by kernel_rfl) rfl #[.slice Ao9 t183.length co9] rfl (by (try simp only [List.map_toArray, List.map_cons, List.map_nil]); first | done | rfl | (simp only [List.length_drop, List.length_take]; rfl)) ?_; (with_reducible refine (spec_EQSets.calls k _ _ t183 t189 _ ?side1 ?side2 A6.out).mono ?_); (case side1 => repeat (first | exact (Kd.N_reads' HO185.out).2.2 | (with_reducible refine Kd.C_alloc ?_ _) | (with_reducible refine Kd.C_drewN ?_ _) | (with_reducible refine Kd.C_drew ?_))); (case side2 => exact (Kd.N_reads' HO185.out).2.1); rintro e w11 ⟨v190, rfl, ho0, hb⟩; refine ⟨_, rfl, ?_⟩; have n0_ := Aside0.mk (Kd.N_elder' (by (with_reducible repeat (first | apply Kd.N_alloc | apply Kd.N_drewN | apply Kd.N_drew)); exact HO185.out) (Kd.N_base ho0) hb); have n1_ := Aside0.mk (Kd.N_elder' (by (with_reducible repeat (first | apply Kd.N_alloc | apply Kd.N_drewN | apply Kd.N_drew)); exact HO188.out) (Kd.N_base ho0) hb); have n2_ := Aside0.mk (Kd.N_lower (Kd.N_mono (ok' := fun k_ => some k_ ≠ (.slice Ao9 t183.length co9 : Value).ownBlock ∧ some k_ ≠ (v187 : Value).ownBlock) ho0 (fun k_ hk_ => ⟨(Kd.fresh' (Kd.N_lt (by (with_reducible repeat (first | apply Kd.N_alloc | apply Kd.N_drewN | apply Kd.N_drew)); exact HO185.out)) k_ hk_), (Kd.fresh' (Kd.N_lt (by (with_reducible repeat (first | apply Kd.N_alloc | apply Kd.N_drewN | apply Kd.N_drew)); exact HO188.out)) k_ hk_)⟩)) (below_size (by repeat (first | (with_reducible first | exact HB.out | apply below_alloc | apply pw_below_drewN | apply below_drew1) | exact HB.out)))); have n3_ := Aside0.mk (below_step (by repeat (first | (with_reducible first | exact HB.out | apply below_alloc | apply pw_below_drewN | apply below_drew1) | exact HB.out)) hb); clear HO185; clear HO188; clear HB; have HO185 := n0_; have HO188 := n1_; have HO191 := n2_; have HB := n3_; clear n0_ n1_ n2_ n3_; (try clear hb); (try clear hb2); (try clear hk); (try clear hi); (try clear ho0); obtain ⟨Ao12, co12, eo12⟩ := Kd.N_slice HO188.out; subst eo12; obtain ⟨Ao13, co13, eo13⟩ := Kd.N_slice HO191.out; subst eo13) | ((with_reducible refine gate_callee (f := 14) rfl ?_); refine goesL_ (some 13) rfl rfl Tryd.func14 (by kernel_rfl) rfl #[.slice Ao12 t186.length co12, .slice Ao13 t189.length co13] rfl (by (try simp only [List.map_toArray, List.map_cons, List.map_nil]); first | done | rfl | (simp only [List.length_drop, List.length_take]; rfl)) ?_; (with_reducible refine (spec_EQSame.calls k _ _ t186 _ _ t189 t192 _ ?side1 ?side2 ?side3 ?side4 A7.out).mono ?_); (case side1 => repeat (first | exact (Kd.N_reads' HO188.out).2.2 | (with_reducible refine Kd.C_alloc ?_ _) | (with_reducible refine Kd.C_drewN ?_ _) | (with_reducible refine Kd.C_drew ?_))); (case side2 => exact (Kd.N_reads' HO188.out).2.1); (case side3 => repeat (first | exact (Kd.N_reads' HO191.out).2.2 | (with_reducible refine Kd.C_alloc ?_ _) | (with_reducible refine Kd.C_drewN ?_ _) | (with_reducible refine Kd.C_drew ?_))); (case side4 => exact (Kd.N_reads' HO191.out).2.1); rintro e w14 ⟨rfl, hb⟩; refine ⟨_, rfl, ?_⟩; have n0_ := Aside0.mk (Kd.N_below (by (with_reducible repeat (first | apply Kd.N_alloc | apply Kd.N_drewN | apply Kd.N_drew)); exact HO185.out) hb); have n1_ := Aside0.mk (Kd.N_below (by (with_reducible repeat (first | apply Kd.N_alloc | apply Kd.N_drewN | apply Kd.N_drew)); exact HO188.out) hb); have n2_ := Aside0.mk (Kd.N_below (by (with_reducible repeat (first | apply Kd.N_alloc | apply Kd.N_drewN | apply Kd.N_drew)); exact HO191.out) hb); have n3_ := Aside0.mk (below_step (by repeat (first | (with_reducible first | exact HB.out | apply below_alloc | apply pw_below_drewN | apply below_drew1) | exact HB.out)) hb); clear HO185; clear HO188; clear HO191; clear HB; have HO185 := n0_; have HO188 := n1_; have HO191 := n2_; have HB := n3_; clear n0_ n1_ n2_ n3_; (try clear hb); (try clear hb2); (try clear hk); (try clear hi)))
    go_ret
    exact ⟨by first | rfl | (simp [errW_none, errW_some] <;> rfl) | (simp [*, errW_none, errW_some] <;> rfl), by repeat (first | (with_reducible first | exact HB.out | apply below_alloc | apply pw_below_drewN | apply below_drew1) | exact HB.out)⟩
  · replace c3 := Bool.eq_false_iff.mpr c3
    subst c3
    have H1 : (some true) = some r := by rw [if_neg (show ¬ (false = true) by decide)] at H; exact H
    clear H
    have H := H1
    clear H1
    obtain rfl := Option.some.inj H
    go_enter Tryd.func4, Tryd.ntmps4
    go_wp2_with (first | ((with_reducible refine gate_callee (f := 12) rfl ?_); refine goesL_ (some 5) rfl rfl Tryd.func12 (by kernel_rfl) rfl #[.slice A0 l0.length c0] rfl (by (try simp only [List.map_toArray, List.map_cons, List.map_nil]); first | done | rfl | (simp only [List.length_drop, List.length_take]; rfl)) ?_; (with_reducible refine (laws_zzFits7.calls k _ _ l0 false _ ?side1 ?side2 A2.out).mono ?_); (case side1 => repeat (first | exact HR0.out | (with_reducible refine Kd.C_alloc ?_ _) | (with_reducible refine Kd.C_drewN ?_ _) | (with_reducible refine Kd.C_drew ?_))); (case side2 => exact HC0.out); rintro e w' ⟨rfl, ⟨nd, rfl⟩⟩; refine ⟨_, rfl, ?_⟩))
    go_ret
    exact ⟨by first | rfl | (simp [errW_none, errW_some] <;> rfl) | (simp [*, errW_none, errW_some] <;> rfl), by repeat (first | (with_reducible first | exact HB.out | apply below_alloc | apply pw_below_drewN | apply below_drew1) | exact HB.out)⟩

end Go.Proofs.YtlghbhkpdlkhjaaDoor.PEQ
