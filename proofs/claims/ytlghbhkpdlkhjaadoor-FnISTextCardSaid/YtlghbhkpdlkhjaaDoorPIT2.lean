-- written by gprint.py, a program of this claim's own, by means of the kit's print
import Derived.Test.YtlghbhkpdlkhjaaDoorPIT0
import Derived.Test.YtlghbhkpdlkhjaaDoorPIT1
import Derived.Test.YtlghbhkpdlkhjaaDoorITd
namespace Go.Proofs.YtlghbhkpdlkhjaaDoor.PIT
open Go.RowKit Go.Proofs.YtlghbhkpdlkhjaaDoorW.PrintWords Go.Proofs.YtlghbhkpdlkhjaaDoorW.PrintLast Go.Proofs.YtlghbhkpdlkhjaaDoorW.PrintMore
attribute [local go_sem] max2_int min2_int max_two min_two max_three min_three max_four min_four   -- for this text's walks alone
set_option linter.unusedVariables false
set_option linter.unusedSimpArgs false

/-! ### spec_ISText: function 19 -/
mutual
def spec_ISText.l0 : Nat → List Int → ByteArray → Int → Option (ByteArray)
  | 0, _, _, _ => none
  | k + 1, x0, x3, x4 => if x4 < (x0.length : Int) then (spec_ISText.l1 k x0 x3 x4 x4) else (if 1 + x3.size ≤ 9223372036854775807 then (if ((⟨#[40]⟩ : ByteArray) ++ x3).size + 1 ≤ 9223372036854775807 then (some (((⟨#[40]⟩ : ByteArray) ++ x3) ++ (⟨#[41]⟩ : ByteArray))) else (none)) else (none))
def spec_ISText.j2 : Nat → List Int → ByteArray → Int → Int → Option (ByteArray)
  | 0, _, _, _, _ => none
  | k + 1, x0, x3, x4, x5 => if (wrap64 (x5 - x4)) < 2 then (spec_ISText.j3 k x0 x3 x4 x4) else (spec_ISText.j3 k x0 x3 x4 x5)
def spec_ISText.j3 : Nat → List Int → ByteArray → Int → Int → Option (ByteArray)
  | 0, _, _, _, _ => none
  | k + 1, x0, x3, x4, x5 => if x3.toList = ([] : List UInt8) then (spec_ISText.j4 k x0 x3 x4 x5) else (if x3.size + 1 ≤ 9223372036854775807 then (spec_ISText.j4 k x0 (x3 ++ (⟨#[44]⟩ : ByteArray)) x4 x5) else (none))
def spec_ISText.j4 : Nat → List Int → ByteArray → Int → Int → Option (ByteArray)
  | 0, _, _, _, _ => none
  | k + 1, x0, x3, x4, x5 => if 0 ≤ x4 then (if x4 < (x0.length : Int) then ((spec_ISDecimal.f k (rd x0 x4)).bind fun t133 => (if x3.size + t133.size ≤ 9223372036854775807 then (if x5 > x4 then (if 0 ≤ x5 then (if x5 < (x0.length : Int) then ((spec_ISDecimal.f k (rd x0 x5)).bind fun t135 => (if 1 + t135.size ≤ 9223372036854775807 then (if (x3 ++ t133).size + ((⟨#[45]⟩ : ByteArray) ++ t135).size ≤ 9223372036854775807 then (spec_ISText.l0 k x0 ((x3 ++ t133) ++ ((⟨#[45]⟩ : ByteArray) ++ t135)) (wrap64 (x5 + 1))) else (none)) else (none))) else (none)) else (none)) else (spec_ISText.l0 k x0 (x3 ++ t133) (wrap64 (x5 + 1)))) else (none))) else (none)) else (none)
def spec_ISText.l1 : Nat → List Int → ByteArray → Int → Int → Option (ByteArray)
  | 0, _, _, _, _ => none
  | k + 1, x0, x3, x4, x5 => if (wrap64 (x5 + 1)) < (x0.length : Int) then (if 0 ≤ (wrap64 (x5 + 1)) then (if 0 ≤ x5 then (if x5 < (x0.length : Int) then (if (rd x0 (wrap64 (x5 + 1))) = (wrap64 ((rd x0 x5) + 1)) then (spec_ISText.l1 k x0 x3 x4 (wrap64 (x5 + 1))) else (spec_ISText.j2 k x0 x3 x4 x5)) else (none)) else (none)) else (none)) else (spec_ISText.j2 k x0 x3 x4 x5)
end
def spec_ISText.f (k : Nat) (l0 : List Int) : Option (ByteArray) := spec_ISText.l0 k l0 (⟨#[]⟩ : ByteArray) 0
theorem spec_ISText.mono_l : ∀ k, (∀ y0 y1 y2, LeO (spec_ISText.l0 k y0 y1 y2) (spec_ISText.l0 (k + 1) y0 y1 y2)) ∧ (∀ y0 y1 y2 y3, LeO (spec_ISText.j2 k y0 y1 y2 y3) (spec_ISText.j2 (k + 1) y0 y1 y2 y3)) ∧ (∀ y0 y1 y2 y3, LeO (spec_ISText.j3 k y0 y1 y2 y3) (spec_ISText.j3 (k + 1) y0 y1 y2 y3)) ∧ (∀ y0 y1 y2 y3, LeO (spec_ISText.j4 k y0 y1 y2 y3) (spec_ISText.j4 (k + 1) y0 y1 y2 y3)) ∧ (∀ y0 y1 y2 y3, LeO (spec_ISText.l1 k y0 y1 y2 y3) (spec_ISText.l1 (k + 1) y0 y1 y2 y3))
  | 0 => ⟨fun _ _ _ r h => by simp [spec_ISText.l0] at h, fun _ _ _ _ r h => by simp [spec_ISText.j2] at h, fun _ _ _ _ r h => by simp [spec_ISText.j3] at h, fun _ _ _ _ r h => by simp [spec_ISText.j4] at h, fun _ _ _ _ r h => by simp [spec_ISText.l1] at h⟩
  | k + 1 => by
    obtain ⟨ih0, ih1, ih2, ih3, ih4⟩ := spec_ISText.mono_l k
    refine ⟨?_, ?_, ?_, ?_, ?_⟩
    · intro y0 y1 y2
      unfold spec_ISText.l0
      repeat' first
      | (with_reducible exact ih0 _ _ _)
      | (with_reducible exact ih1 _ _ _ _)
      | (with_reducible exact ih2 _ _ _ _)
      | (with_reducible exact ih3 _ _ _ _)
      | (with_reducible exact ih4 _ _ _ _)
      | (with_reducible exact spec_ISDecimal.mono _ _)
      | (with_reducible exact LeO.refl _)
      | (with_reducible exact LeO.none _)
      | (with_reducible refine LeO.ite ?_ ?_)
      | (with_reducible refine LeO.bind ?_ (fun _ => ?_))
      | exact ih0 _ _ _
      | exact ih1 _ _ _ _
      | exact ih2 _ _ _ _
      | exact ih3 _ _ _ _
      | exact ih4 _ _ _ _
      | exact spec_ISDecimal.mono _ _
      | exact LeO.none _
      | refine LeO.ite ?_ ?_
      | refine LeO.bind ?_ (fun _ => ?_)
    · intro y0 y1 y2 y3
      unfold spec_ISText.j2
      repeat' first
      | (with_reducible exact ih0 _ _ _)
      | (with_reducible exact ih1 _ _ _ _)
      | (with_reducible exact ih2 _ _ _ _)
      | (with_reducible exact ih3 _ _ _ _)
      | (with_reducible exact ih4 _ _ _ _)
      | (with_reducible exact spec_ISDecimal.mono _ _)
      | (with_reducible exact LeO.refl _)
      | (with_reducible exact LeO.none _)
      | (with_reducible refine LeO.ite ?_ ?_)
      | (with_reducible refine LeO.bind ?_ (fun _ => ?_))
      | exact ih0 _ _ _
      | exact ih1 _ _ _ _
      | exact ih2 _ _ _ _
      | exact ih3 _ _ _ _
      | exact ih4 _ _ _ _
      | exact spec_ISDecimal.mono _ _
      | exact LeO.none _
      | refine LeO.ite ?_ ?_
      | refine LeO.bind ?_ (fun _ => ?_)
    · intro y0 y1 y2 y3
      unfold spec_ISText.j3
      repeat' first
      | (with_reducible exact ih0 _ _ _)
      | (with_reducible exact ih1 _ _ _ _)
      | (with_reducible exact ih2 _ _ _ _)
      | (with_reducible exact ih3 _ _ _ _)
      | (with_reducible exact ih4 _ _ _ _)
      | (with_reducible exact spec_ISDecimal.mono _ _)
      | (with_reducible exact LeO.refl _)
      | (with_reducible exact LeO.none _)
      | (with_reducible refine LeO.ite ?_ ?_)
      | (with_reducible refine LeO.bind ?_ (fun _ => ?_))
      | exact ih0 _ _ _
      | exact ih1 _ _ _ _
      | exact ih2 _ _ _ _
      | exact ih3 _ _ _ _
      | exact ih4 _ _ _ _
      | exact spec_ISDecimal.mono _ _
      | exact LeO.none _
      | refine LeO.ite ?_ ?_
      | refine LeO.bind ?_ (fun _ => ?_)
    · intro y0 y1 y2 y3
      unfold spec_ISText.j4
      repeat' first
      | (with_reducible exact ih0 _ _ _)
      | (with_reducible exact ih1 _ _ _ _)
      | (with_reducible exact ih2 _ _ _ _)
      | (with_reducible exact ih3 _ _ _ _)
      | (with_reducible exact ih4 _ _ _ _)
      | (with_reducible exact spec_ISDecimal.mono _ _)
      | (with_reducible exact LeO.refl _)
      | (with_reducible exact LeO.none _)
      | (with_reducible refine LeO.ite ?_ ?_)
      | (with_reducible refine LeO.bind ?_ (fun _ => ?_))
      | exact ih0 _ _ _
      | exact ih1 _ _ _ _
      | exact ih2 _ _ _ _
      | exact ih3 _ _ _ _
      | exact ih4 _ _ _ _
      | exact spec_ISDecimal.mono _ _
      | exact LeO.none _
      | refine LeO.ite ?_ ?_
      | refine LeO.bind ?_ (fun _ => ?_)
    · intro y0 y1 y2 y3
      unfold spec_ISText.l1
      repeat' first
      | (with_reducible exact ih0 _ _ _)
      | (with_reducible exact ih1 _ _ _ _)
      | (with_reducible exact ih2 _ _ _ _)
      | (with_reducible exact ih3 _ _ _ _)
      | (with_reducible exact ih4 _ _ _ _)
      | (with_reducible exact spec_ISDecimal.mono _ _)
      | (with_reducible exact LeO.refl _)
      | (with_reducible exact LeO.none _)
      | (with_reducible refine LeO.ite ?_ ?_)
      | (with_reducible refine LeO.bind ?_ (fun _ => ?_))
      | exact ih0 _ _ _
      | exact ih1 _ _ _ _
      | exact ih2 _ _ _ _
      | exact ih3 _ _ _ _
      | exact ih4 _ _ _ _
      | exact spec_ISDecimal.mono _ _
      | exact LeO.none _
      | refine LeO.ite ?_ ?_
      | refine LeO.bind ?_ (fun _ => ?_)
theorem spec_ISText.mono : ∀ a0 k, LeO (spec_ISText.f k a0) (spec_ISText.f (k + 1) a0) := by
  intro a0 k
  obtain ⟨ih0, ih1, ih2, ih3, ih4⟩ := spec_ISText.mono_l k
  unfold spec_ISText.f
  repeat' first
      | (with_reducible exact ih0 _ _ _)
      | (with_reducible exact ih1 _ _ _ _)
      | (with_reducible exact ih2 _ _ _ _)
      | (with_reducible exact ih3 _ _ _ _)
      | (with_reducible exact ih4 _ _ _ _)
      | (with_reducible exact spec_ISDecimal.mono _ _)
      | (with_reducible exact LeO.refl _)
      | (with_reducible exact LeO.none _)
      | (with_reducible refine LeO.ite ?_ ?_)
      | (with_reducible refine LeO.bind ?_ (fun _ => ?_))
      | exact ih0 _ _ _
      | exact ih1 _ _ _ _
      | exact ih2 _ _ _ _
      | exact ih3 _ _ _ _
      | exact ih4 _ _ _ _
      | exact spec_ISDecimal.mono _ _
      | exact LeO.none _
      | refine LeO.ite ?_ ?_
      | refine LeO.bind ?_ (fun _ => ?_)
set_option maxHeartbeats 8000000 in
set_option maxRecDepth 100000 in
theorem spec_ISText.calls (k : Nat) (A0 : Option Addr) (c0 : Nat) (l0 : List Int) (r : ByteArray) (w : World) (hr0 : Kd.C (Kd.int .i64) w A0 l0.length l0) (hc0 : l0.length ≤ c0) (h : spec_ISText.f k l0 = some r) :
    Calls Tryd.prog 19 #[.slice A0 l0.length c0] w fun e w' => e = .returned (.string r) ∧ Below w.heap.size w w' := by
  have HR0 := Aside0.mk hr0
  have HC0 := Aside0.mk hc0
  clear hr0 hc0
  have HB := Aside0.mk (Below.refl w.heap.size w)
  have H : (spec_ISText.l0 k l0 (⟨#[]⟩ : ByteArray) 0) = some r := h
  clear h
  have H' := Aside0.mk H
  clear H
  go_enter Tryd.func19, Tryd.ntmps19
  go_wp2
  repeat (go_quiet (fail); try go_wp2)
  go_loopg [3, 4] k (fun kq v3 v4 w' => ∃ (x3_1 : ByteArray) (x4_1 : Int), v3 = .string x3_1 ∧ v4 = .int .i64 x4_1 ∧ Aside0 (spec_ISText.l0 kq l0 x3_1 x4_1 = some r) ∧ Aside0 (kq ≤ k) ∧ Aside0 (Below w.heap.size w w'))
  case atStart => exact ⟨((⟨#[]⟩ : ByteArray)), (0), (by first | rfl | (simp; done) | (simp [*]; done)), (by first | rfl | (simp; done) | (simp [*]; done)), H', ⟨Nat.le_refl _⟩, ⟨by repeat (first | (with_reducible first | exact HB.out | apply below_alloc | apply pw_below_drewN | apply below_drew1) | exact HB.out)⟩⟩
  case round =>
    clear H'
    try clear c1
    obtain ⟨x3_1, x4_1, rfl, rfl, HA, HK1, HB⟩ := hrel
    cases gk with
    | zero => exact absurd HA.out (by simp [spec_ISText.l0])
    | succ k1 =>
      have H := HA.out
      clear HA
      simp only [spec_ISText.l0] at H
      by_cases c2 : x4_1 < (l0.length : Int)
      · rw [if_pos c2] at H
        have c2b0 : decide (x4_1 < (l0.length : Int)) = true := decide_eq_true c2
        clear c2
        have HC3 := Aside0.mk H
        clear H
        go_upto_block 2 with (fail)
        repeat (go_quiet (fail); go_upto_block 2 with (fail))
        go_cut [5] (fun v5 wc => ∃ (kq : Nat) (x5_2 : Int), v5 = .int .i64 x5_2 ∧ Aside0 (spec_ISText.j2 kq l0 x3_1 x4_1 x5_2 = some r) ∧ Aside0 (kq ≤ k1) ∧ Aside0 (Below w.heap.size w wc))
        case first =>
          have H := HC3.out
          clear HC3
          have H' := Aside0.mk H
          clear H
          go_wp2
          repeat (go_quiet (fail); try go_wp2)
          go_loopg [5] k1 (fun kq v5 w' => ∃ (x5_2 : Int), v5 = .int .i64 x5_2 ∧ Aside0 (spec_ISText.l1 kq l0 x3_1 x4_1 x5_2 = some r) ∧ Aside0 (kq ≤ k1) ∧ Aside0 (Below w.heap.size w w'))
          case atStart => exact ⟨(x4_1), (by first | rfl | (simp; done) | (simp [*]; done)), H', ⟨Nat.le_refl _⟩, ⟨by repeat (first | (with_reducible first | exact HB.out | apply below_alloc | apply pw_below_drewN | apply below_drew1) | exact HB.out)⟩⟩
          case round =>
            clear H'
            try clear c1
            try clear c2
            try clear c2b0
            try clear p2
            obtain ⟨x5_2, rfl, HA, HK2, HB⟩ := hrel
            cases gk with
            | zero => exact absurd HA.out (by simp [spec_ISText.l1])
            | succ k2 =>
              have H := HA.out
              clear HA
              simp only [spec_ISText.l1] at H
              by_cases c4 : (wrap64 (x5_2 + 1)) < (l0.length : Int)
              · rw [if_pos c4] at H
                have c4b0 : decide ((wrap64 (x5_2 + 1)) < (l0.length : Int)) = true := decide_eq_true c4
                clear c4
                (first | rw [c4b0] | (simp only [i64_w, i32_w]; rw [c4b0]) | skip)
                obtain ⟨ji5, hji5⟩ : ∃ j_ : Int, (wrap64 (x5_2 + 1)) = j_ := ⟨_, rfl⟩
                replace H : (if 0 ≤ (ji5) then (if 0 ≤ x5_2 then (if x5_2 < (l0.length : Int) then (if (rd l0 (ji5)) = (wrap64 ((rd l0 x5_2) + 1)) then (spec_ISText.l1 k2 l0 x3_1 x4_1 ji5) else (spec_ISText.j2 k2 l0 x3_1 x4_1 x5_2)) else (none)) else (none)) else (none)) = some r := by first | (rw [hji5] at H; exact H) | (simp only [hji5] at H ⊢; exact H)
                (try rw [hji5] at c4b0)
                have hji5w : (IntKind.i64.wrap (x5_2 + 1)) = ji5 := (i64_w _).trans hji5
                by_cases c6 : 0 ≤ (ji5)
                · rw [if_pos c6] at H
                  have c6b0 : decide (0 ≤ (ji5)) = true := decide_eq_true c6
                  clear c6
                  by_cases c7 : 0 ≤ x5_2
                  · rw [if_pos c7] at H
                    have c7b0 : decide (0 ≤ x5_2) = true := decide_eq_true c7
                    clear c7
                    by_cases c8 : x5_2 < (l0.length : Int)
                    · rw [if_pos c8] at H
                      have c8b0 : decide (x5_2 < (l0.length : Int)) = true := decide_eq_true c8
                      clear c8
                      by_cases c9 : (rd l0 (ji5)) = (wrap64 ((rd l0 x5_2) + 1))
                      · rw [if_pos c9] at H
                        have c9b0 : ((rd l0 (ji5)) == (wrap64 ((rd l0 x5_2) + 1))) = true := beq_iff_eq.mpr c9
                        have c9b1 : ((rd l0 (ji5)) != (wrap64 ((rd l0 x5_2) + 1))) = false := bne_eq_false_iff_eq.mpr c9
                        clear c9
                        have H' := Aside0.mk H
                        clear H
                        have p130 : 0 ≤ ((ji5) : Int) := of_decide_eq_true (by first | (with_reducible assumption) | assumption)
                        have q130 : (ji5) < (l0.length : Int) := of_decide_eq_true (by first | (with_reducible assumption) | assumption)
                        obtain ⟨ad130, e130, hx130_0⟩ := Kd.at_int HR0.out (ji5) p130 q130
                        cases e130
                        replace hx130_0 := (HB.out.cell (World.block_lt_of_cell? w _ hx130_0)).trans hx130_0
                        replace p130 := eq_true p130
                        replace q130 := eq_true q130
                        have p131 : 0 ≤ (x5_2 : Int) := of_decide_eq_true (by first | (with_reducible assumption) | assumption)
                        have q131 : x5_2 < (l0.length : Int) := of_decide_eq_true (by first | (with_reducible assumption) | assumption)
                        obtain ⟨ad131, e131, hx131_0⟩ := Kd.at_int HR0.out x5_2 p131 q131
                        obtain rfl : ad130 = ad131 := (by injection e131)
                        replace hx131_0 := (HB.out.cell (World.block_lt_of_cell? w _ hx131_0)).trans hx131_0
                        replace p131 := eq_true p131
                        replace q131 := eq_true q131
                        go_wp2
                        repeat (go_quiet (fail); try go_wp2)
                        go_roundg k2
                        case measure => have := HK1.out; have := HK2.out; omega
                        case rel => exact ⟨(ji5), (by first | rfl | (simp; done) | (simp only [← hji5] <;> (first | rfl | simp)) | (simp [*]; done)), H', ⟨by have := HK1.out; have := HK2.out; omega⟩, ⟨by repeat (first | (with_reducible first | exact HB.out | apply below_alloc | apply pw_below_drewN | apply below_drew1) | exact HB.out)⟩⟩
                      · rw [if_neg c9] at H
                        have c9b0 : ((rd l0 (ji5)) == (wrap64 ((rd l0 x5_2) + 1))) = false := beq_eq_false_iff_ne.mpr c9
                        have c9b1 : ((rd l0 (ji5)) != (wrap64 ((rd l0 x5_2) + 1))) = true := bne_iff_ne.mpr c9
                        have H' := Aside0.mk H
                        clear H
                        have p130 : 0 ≤ ((ji5) : Int) := of_decide_eq_true (by first | (with_reducible assumption) | assumption)
                        have q130 : (ji5) < (l0.length : Int) := of_decide_eq_true (by first | (with_reducible assumption) | assumption)
                        obtain ⟨ad130, e130, hx130_0⟩ := Kd.at_int HR0.out (ji5) p130 q130
                        cases e130
                        replace hx130_0 := (HB.out.cell (World.block_lt_of_cell? w _ hx130_0)).trans hx130_0
                        replace p130 := eq_true p130
                        replace q130 := eq_true q130
                        have p131 : 0 ≤ (x5_2 : Int) := of_decide_eq_true (by first | (with_reducible assumption) | assumption)
                        have q131 : x5_2 < (l0.length : Int) := of_decide_eq_true (by first | (with_reducible assumption) | assumption)
                        obtain ⟨ad131, e131, hx131_0⟩ := Kd.at_int HR0.out x5_2 p131 q131
                        obtain rfl : ad130 = ad131 := (by injection e131)
                        replace hx131_0 := (HB.out.cell (World.block_lt_of_cell? w _ hx131_0)).trans hx131_0
                        replace p131 := eq_true p131
                        replace q131 := eq_true q131
                        go_wp2
                        repeat (go_quiet (fail); try go_wp2)
                        go_meet
                        case rel => exact ⟨_, (x5_2), (by first | rfl | (simp; done) | (simp [*]; done)), H', ⟨by have := HK1.out; have := HK2.out; first | omega | exact Nat.le_refl _⟩, ⟨by repeat (first | (with_reducible first | exact HB.out | apply below_alloc | apply pw_below_drewN | apply below_drew1) | exact HB.out)⟩⟩
                    · rw [if_neg c8] at H
                      exact absurd H (by simp)
                  · rw [if_neg c7] at H
                    exact absurd H (by simp)
                · rw [if_neg c6] at H
                  exact absurd H (by simp)
              · rw [if_neg c4] at H
                have c4b0 : decide ((wrap64 (x5_2 + 1)) < (l0.length : Int)) = false := decide_eq_false c4
                clear c4
                (first | rw [c4b0] | (simp only [i64_w, i32_w]; rw [c4b0]) | skip)
                have H' := Aside0.mk H
                clear H
                go_wp2
                repeat (go_quiet (fail); try go_wp2)
                go_meet
                case rel => exact ⟨_, (x5_2), (by first | rfl | (simp; done) | (simp [*]; done)), H', ⟨by have := HK1.out; have := HK2.out; first | omega | exact Nat.le_refl _⟩, ⟨by repeat (first | (with_reducible first | exact HB.out | apply below_alloc | apply pw_below_drewN | apply below_drew1) | exact HB.out)⟩⟩
        case rest =>
          clear HC3
          try clear c1
          try clear p1
          try clear q1
          try clear hx1
          try clear c2
          try clear c2b0
          try clear p2
          try clear c4
          try clear c4b0
          try clear c6
          try clear c6b0
          try clear p6
          try clear c7
          try clear c7b0
          try clear c8
          try clear c8b0
          try clear c9
          try clear c9b0
          try clear c9b1
          try clear hx130_0
          try clear hx131_0
          try clear p130
          try clear p131
          try clear p2
          try clear q130
          try clear q131
          obtain ⟨kq, x5_2, rfl, HA, HJ2, HB⟩ := hcut
          cases kq with
          | zero => exact absurd HA.out (by simp [spec_ISText.j2])
          | succ kj2 =>
            have H := HA.out
            clear HA
            simp only [spec_ISText.j2] at H
            have HC10 := Aside0.mk H
            clear H
            go_upto_if 34 with (fail)
            repeat (go_quiet (fail); go_upto_if 34 with (fail))
            go_cut [5] (fun v5 wc => ∃ (kq : Nat) (x5_9 : Int), v5 = .int .i64 x5_9 ∧ Aside0 (spec_ISText.j3 kq l0 x3_1 x4_1 x5_9 = some r) ∧ Aside0 (kq ≤ kj2) ∧ Aside0 (Below w.heap.size w wc))
            case first =>
              have H := HC10.out
              clear HC10
              by_cases c11 : (wrap64 (x5_2 - x4_1)) < 2
              · rw [if_pos c11] at H
                have c11b0 : decide ((wrap64 (x5_2 - x4_1)) < 2) = true := decide_eq_true c11
                clear c11
                (first | rw [c11b0] | (simp only [i64_w, i32_w]; rw [c11b0]) | skip)
                have H' := Aside0.mk H
                clear H
                go_wp2
                repeat (go_quiet (fail); try go_wp2)
                go_meet
                case rel => exact ⟨_, (x4_1), (by first | rfl | (simp; done) | (simp [*]; done)), H', ⟨by have := HK1.out; have := HJ2.out; first | omega | exact Nat.le_refl _⟩, ⟨by repeat (first | (with_reducible first | exact HB.out | apply below_alloc | apply pw_below_drewN | apply below_drew1) | exact HB.out)⟩⟩
              · rw [if_neg c11] at H
                have c11b0 : decide ((wrap64 (x5_2 - x4_1)) < 2) = false := decide_eq_false c11
                clear c11
                (first | rw [c11b0] | (simp only [i64_w, i32_w]; rw [c11b0]) | skip)
                have H' := Aside0.mk H
                clear H
                go_wp2
                repeat (go_quiet (fail); try go_wp2)
                go_meet
                case rel => exact ⟨_, (x5_2), (by first | rfl | (simp; done) | (simp [*]; done)), H', ⟨by have := HK1.out; have := HJ2.out; first | omega | exact Nat.le_refl _⟩, ⟨by repeat (first | (with_reducible first | exact HB.out | apply below_alloc | apply pw_below_drewN | apply below_drew1) | exact HB.out)⟩⟩
            case rest =>
              clear HC10
              try clear c1
              try clear p1
              try clear q1
              try clear hx1
              try clear c2
              try clear c2b0
              try clear p2
              try clear c4
              try clear c4b0
              try clear c6
              try clear c6b0
              try clear p6
              try clear c7
              try clear c7b0
              try clear c8
              try clear c8b0
              try clear c9
              try clear c9b0
              try clear c9b1
              try clear c11
              try clear c11b0
              try clear hx130_0
              try clear hx131_0
              try clear p1
              try clear p130
              try clear p131
              try clear p2
              try clear p6
              try clear q1
              try clear q130
              try clear q131
              obtain ⟨kq, x5_9, rfl, HA, HJ9, HB⟩ := hcut
              cases kq with
              | zero => exact absurd HA.out (by simp [spec_ISText.j3])
              | succ kj9 =>
                have H := HA.out
                clear HA
                simp only [spec_ISText.j3] at H
                have HC12 := Aside0.mk H
                clear H
                go_upto_if 37 with (fail)
                repeat (go_quiet (fail); go_upto_if 37 with (fail))
                go_cut [3] (fun v3 wc => ∃ (kq : Nat) (x3_11 : ByteArray), v3 = .string x3_11 ∧ Aside0 (spec_ISText.j4 kq l0 x3_11 x4_1 x5_9 = some r) ∧ Aside0 (kq ≤ kj9) ∧ Aside0 (Below w.heap.size w wc))
                case first =>
                  have H := HC12.out
                  clear HC12
                  by_cases c13 : x3_1.toList = ([] : List UInt8)
                  · rw [if_pos c13] at H
                    have c13b0 : (x3_1.toList == ([] : List UInt8)) = true := beq_iff_eq.mpr c13
                    have c13b8 : (!x3_1.toList.isEmpty) = false := by rw [show x3_1.toList.isEmpty = true from List.isEmpty_iff.mpr c13]; rfl
                    have c13b1 : (x3_1.toList != ([] : List UInt8)) = false := bne_eq_false_iff_eq.mpr c13
                    clear c13
                    (first | rw [c13b0] | (simp only [i64_w, i32_w]; rw [c13b0]) | skip)
                    have H' := Aside0.mk H
                    clear H
                    go_wp2
                    repeat (go_quiet (fail); try go_wp2)
                    all_goals try (exact absurd ((‹(!x3_1.toList.isEmpty) = true›).symm.trans c13b8) (by decide))
                    go_meet
                    case rel => exact ⟨_, (x3_1), (by first | rfl | (simp; done) | (simp [*]; done)), H', ⟨by have := HK1.out; have := HJ2.out; have := HJ9.out; first | omega | exact Nat.le_refl _⟩, ⟨by repeat (first | (with_reducible first | exact HB.out | apply below_alloc | apply pw_below_drewN | apply below_drew1) | exact HB.out)⟩⟩
                  · rw [if_neg c13] at H
                    have c13b0 : (x3_1.toList == ([] : List UInt8)) = false := beq_eq_false_iff_ne.mpr c13
                    have c13b8 : (!x3_1.toList.isEmpty) = true := by rw [show x3_1.toList.isEmpty = false from Bool.eq_false_iff.mpr (fun h => c13 (List.isEmpty_iff.mp h))]; rfl
                    have c13b1 : (x3_1.toList != ([] : List UInt8)) = true := bne_iff_ne.mpr c13
                    (first | rw [c13b0] | (simp only [i64_w, i32_w]; rw [c13b0]) | skip)
                    by_cases c14 : x3_1.size + 1 ≤ 9223372036854775807
                    · rw [if_pos c14] at H
                      have c14b0 := eq_true c14
                      have c14b1 : decide (x3_1.size + 1 ≤ 9223372036854775807) = true := decide_eq_true c14
                      try have c14b2 : (9223372036854775807 < x3_1.size + 1) = False := eq_false (Nat.not_lt.2 c14)
                      have H' := Aside0.mk H
                      clear H
                      go_wp2
                      repeat (go_quiet (fail); try go_wp2)
                      all_goals try (exact absurd ((‹(!x3_1.toList.isEmpty) = false›).symm.trans c13b8) (by decide))
                      go_meet
                      case rel => exact ⟨_, (x3_1 ++ (⟨#[44]⟩ : ByteArray)), (by first | rfl | (simp; done) | (simp [*]; done)), H', ⟨by have := HK1.out; have := HJ2.out; have := HJ9.out; first | omega | exact Nat.le_refl _⟩, ⟨by repeat (first | (with_reducible first | exact HB.out | apply below_alloc | apply pw_below_drewN | apply below_drew1) | exact HB.out)⟩⟩
                    · rw [if_neg c14] at H
                      exact absurd H (by simp)
                case rest =>
                  clear HC12
                  try clear c1
                  try clear p1
                  try clear q1
                  try clear hx1
                  try clear c2
                  try clear c2b0
                  try clear p2
                  try clear c4
                  try clear c4b0
                  try clear c6
                  try clear c6b0
                  try clear p6
                  try clear c7
                  try clear c7b0
                  try clear c8
                  try clear c8b0
                  try clear c9
                  try clear c9b0
                  try clear c9b1
                  try clear c11
                  try clear c11b0
                  try clear c13
                  try clear c13b0
                  try clear c13b1
                  try clear p13
                  try clear q13
                  try clear hx13
                  try clear c14
                  try clear c14b0
                  try clear c14b1
                  try clear c14b2
                  try clear hx130_0
                  try clear hx131_0
                  try clear p1
                  try clear p130
                  try clear p131
                  try clear p2
                  try clear p6
                  try clear q1
                  try clear q130
                  try clear q131
                  obtain ⟨kq, x3_11, rfl, HA, HJ11, HB⟩ := hcut
                  cases kq with
                  | zero => exact absurd HA.out (by simp [spec_ISText.j4])
                  | succ kj11 =>
                    have H := HA.out
                    clear HA
                    simp only [spec_ISText.j4] at H
                    by_cases c15 : 0 ≤ x4_1
                    · rw [if_pos c15] at H
                      have c15b0 : decide (0 ≤ x4_1) = true := decide_eq_true c15
                      clear c15
                      by_cases c16 : x4_1 < (l0.length : Int)
                      · rw [if_pos c16] at H
                        have c16b0 : decide (x4_1 < (l0.length : Int)) = true := decide_eq_true c16
                        clear c16
                        replace H := Option.bind_eq_some_iff.mp H
                        obtain ⟨t133, A170, H⟩ := H
                        replace H : (if x3_11.size + t133.size ≤ 9223372036854775807 then (if x5_9 > x4_1 then (if 0 ≤ x5_9 then (if x5_9 < (l0.length : Int) then ((spec_ISDecimal.f kj11 (rd l0 x5_9)).bind fun t135 => (if 1 + t135.size ≤ 9223372036854775807 then (if (x3_11 ++ t133).size + ((⟨#[45]⟩ : ByteArray) ++ t135).size ≤ 9223372036854775807 then (spec_ISText.l0 kj11 l0 ((x3_11 ++ t133) ++ ((⟨#[45]⟩ : ByteArray) ++ t135)) (wrap64 (x5_9 + 1))) else (none)) else (none))) else (none)) else (none)) else (spec_ISText.l0 kj11 l0 (x3_11 ++ t133) (wrap64 (x5_9 + 1)))) else (none)) = some r := H
                        have A17 := Aside0.mk A170
                        clear A170
                        by_cases c18 : x3_11.size + t133.size ≤ 9223372036854775807
                        · rw [if_pos c18] at H
                          have c18b0 := eq_true c18
                          have c18b1 : decide (x3_11.size + t133.size ≤ 9223372036854775807) = true := decide_eq_true c18
                          try have c18b2 : (9223372036854775807 < x3_11.size + t133.size) = False := eq_false (Nat.not_lt.2 c18)
                          by_cases c19 : x5_9 > x4_1
                          · rw [if_pos c19] at H
                            have c19b0 : decide (x4_1 < x5_9) = true := decide_eq_true c19
                            clear c19
                            by_cases c20 : 0 ≤ x5_9
                            · rw [if_pos c20] at H
                              have c20b0 : decide (0 ≤ x5_9) = true := decide_eq_true c20
                              clear c20
                              by_cases c21 : x5_9 < (l0.length : Int)
                              · rw [if_pos c21] at H
                                have c21b0 : decide (x5_9 < (l0.length : Int)) = true := decide_eq_true c21
                                clear c21
                                replace H := Option.bind_eq_some_iff.mp H
                                obtain ⟨t135, A220, H⟩ := H
                                replace H : (if 1 + t135.size ≤ 9223372036854775807 then (if (x3_11 ++ t133).size + ((⟨#[45]⟩ : ByteArray) ++ t135).size ≤ 9223372036854775807 then (spec_ISText.l0 kj11 l0 ((x3_11 ++ t133) ++ ((⟨#[45]⟩ : ByteArray) ++ t135)) (wrap64 (x5_9 + 1))) else (none)) else (none)) = some r := H
                                have A22 := Aside0.mk A220
                                clear A220
                                by_cases c23 : 1 + t135.size ≤ 9223372036854775807
                                · rw [if_pos c23] at H
                                  have c23b0 := eq_true c23
                                  have c23b1 : decide (1 + t135.size ≤ 9223372036854775807) = true := decide_eq_true c23
                                  try have c23b2 : (9223372036854775807 < 1 + t135.size) = False := eq_false (Nat.not_lt.2 c23)
                                  by_cases c24 : (x3_11 ++ t133).size + ((⟨#[45]⟩ : ByteArray) ++ t135).size ≤ 9223372036854775807
                                  · rw [if_pos c24] at H
                                    have c24b0 := eq_true c24
                                    have c24b1 : decide ((x3_11 ++ t133).size + ((⟨#[45]⟩ : ByteArray) ++ t135).size ≤ 9223372036854775807) = true := decide_eq_true c24
                                    try have c24b2 : (9223372036854775807 < (x3_11 ++ t133).size + ((⟨#[45]⟩ : ByteArray) ++ t135).size) = False := eq_false (Nat.not_lt.2 c24)
                                    have H' := Aside0.mk H
                                    clear H
                                    have p132 : 0 ≤ (x4_1 : Int) := of_decide_eq_true (by first | (with_reducible assumption) | assumption)
                                    have q132 : x4_1 < (l0.length : Int) := of_decide_eq_true (by first | (with_reducible assumption) | assumption)
                                    obtain ⟨ad132, e132, hx132_0⟩ := Kd.at_int HR0.out x4_1 p132 q132
                                    cases e132
                                    replace hx132_0 := (HB.out.cell (World.block_lt_of_cell? w _ hx132_0)).trans hx132_0
                                    replace p132 := eq_true p132
                                    replace q132 := eq_true q132
                                    go_wp2_with (first | (go_at_call 36; (with_reducible refine (spec_ISDecimal.calls kj11 (rd l0 x4_1) t133 _ A17.out).mono ?_); rintro e w25 ⟨rfl, hb⟩; have n0_ := Aside0.mk (below_step (by repeat (first | (with_reducible first | exact HB.out | apply below_alloc | apply pw_below_drewN | apply below_drew1) | exact HB.out)) hb); clear HB; have HB := n0_; clear n0_; (try clear hb); (try clear hb2); (try clear hk); (try clear hi); have p134 : 0 ≤ (x5_9 : Int) := of_decide_eq_true (by first | (with_reducible assumption) | assumption); have q134 : x5_9 < (l0.length : Int) := of_decide_eq_true (by first | (with_reducible assumption) | assumption); obtain ⟨ad134, e134, hx134_0⟩ := Kd.at_int HR0.out x5_9 p134 q134; obtain rfl : ad132 = ad134 := (by injection e134); replace hx134_0 := (HB.out.cell (World.block_lt_of_cell? w _ hx134_0)).trans hx134_0; replace p134 := eq_true p134; replace q134 := eq_true q134) | (go_at_call 36; (with_reducible refine (spec_ISDecimal.calls kj11 (rd l0 x5_9) t135 _ A22.out).mono ?_); rintro e w26 ⟨rfl, hb⟩; have n0_ := Aside0.mk (below_step (by repeat (first | (with_reducible first | exact HB.out | apply below_alloc | apply pw_below_drewN | apply below_drew1) | exact HB.out)) hb); clear HB; have HB := n0_; clear n0_; (try clear hb); (try clear hb2); (try clear hk); (try clear hi)))
                                    repeat (go_quiet (first | (go_at_call 36; (with_reducible refine (spec_ISDecimal.calls kj11 (rd l0 x4_1) t133 _ A17.out).mono ?_); rintro e w25 ⟨rfl, hb⟩; have n0_ := Aside0.mk (below_step (by repeat (first | (with_reducible first | exact HB.out | apply below_alloc | apply pw_below_drewN | apply below_drew1) | exact HB.out)) hb); clear HB; have HB := n0_; clear n0_; (try clear hb); (try clear hb2); (try clear hk); (try clear hi); have p134 : 0 ≤ (x5_9 : Int) := of_decide_eq_true (by first | (with_reducible assumption) | assumption); have q134 : x5_9 < (l0.length : Int) := of_decide_eq_true (by first | (with_reducible assumption) | assumption); obtain ⟨ad134, e134, hx134_0⟩ := Kd.at_int HR0.out x5_9 p134 q134; obtain rfl : ad132 = ad134 := (by injection e134); replace hx134_0 := (HB.out.cell (World.block_lt_of_cell? w _ hx134_0)).trans hx134_0; replace p134 := eq_true p134; replace q134 := eq_true q134) | (go_at_call 36; (with_reducible refine (spec_ISDecimal.calls kj11 (rd l0 x5_9) t135 _ A22.out).mono ?_); rintro e w26 ⟨rfl, hb⟩; have n0_ := Aside0.mk (below_step (by repeat (first | (with_reducible first | exact HB.out | apply below_alloc | apply pw_below_drewN | apply below_drew1) | exact HB.out)) hb); clear HB; have HB := n0_; clear n0_; (try clear hb); (try clear hb2); (try clear hk); (try clear hi))); try go_wp2_with (first | (go_at_call 36; (with_reducible refine (spec_ISDecimal.calls kj11 (rd l0 x4_1) t133 _ A17.out).mono ?_); rintro e w25 ⟨rfl, hb⟩; have n0_ := Aside0.mk (below_step (by repeat (first | (with_reducible first | exact HB.out | apply below_alloc | apply pw_below_drewN | apply below_drew1) | exact HB.out)) hb); clear HB; have HB := n0_; clear n0_; (try clear hb); (try clear hb2); (try clear hk); (try clear hi); have p134 : 0 ≤ (x5_9 : Int) := of_decide_eq_true (by first | (with_reducible assumption) | assumption); have q134 : x5_9 < (l0.length : Int) := of_decide_eq_true (by first | (with_reducible assumption) | assumption); obtain ⟨ad134, e134, hx134_0⟩ := Kd.at_int HR0.out x5_9 p134 q134; obtain rfl : ad132 = ad134 := (by injection e134); replace hx134_0 := (HB.out.cell (World.block_lt_of_cell? w _ hx134_0)).trans hx134_0; replace p134 := eq_true p134; replace q134 := eq_true q134) | (go_at_call 36; (with_reducible refine (spec_ISDecimal.calls kj11 (rd l0 x5_9) t135 _ A22.out).mono ?_); rintro e w26 ⟨rfl, hb⟩; have n0_ := Aside0.mk (below_step (by repeat (first | (with_reducible first | exact HB.out | apply below_alloc | apply pw_below_drewN | apply below_drew1) | exact HB.out)) hb); clear HB; have HB := n0_; clear n0_; (try clear hb); (try clear hb2); (try clear hk); (try clear hi))))
                                    go_roundg kj11
                                    case measure => have := HK1.out; have := HJ2.out; have := HJ9.out; have := HJ11.out; omega
                                    case rel => exact ⟨((x3_11 ++ t133) ++ ((⟨#[45]⟩ : ByteArray) ++ t135)), (wrap64 (x5_9 + 1)), (by first | rfl | (simp; done) | (simp [*]; done)), (by first | rfl | (simp; done) | (simp [*]; done)), H', ⟨by have := HK1.out; have := HJ2.out; have := HJ9.out; have := HJ11.out; omega⟩, ⟨by repeat (first | (with_reducible first | exact HB.out | apply below_alloc | apply pw_below_drewN | apply below_drew1) | exact HB.out)⟩⟩
                                  · rw [if_neg c24] at H
                                    exact absurd H (by simp)
                                · rw [if_neg c23] at H
                                  exact absurd H (by simp)
                              · rw [if_neg c21] at H
                                exact absurd H (by simp)
                            · rw [if_neg c20] at H
                              exact absurd H (by simp)
                          · rw [if_neg c19] at H
                            have c19b0 : decide (x4_1 < x5_9) = false := decide_eq_false c19
                            clear c19
                            have H' := Aside0.mk H
                            clear H
                            have p132 : 0 ≤ (x4_1 : Int) := of_decide_eq_true (by first | (with_reducible assumption) | assumption)
                            have q132 : x4_1 < (l0.length : Int) := of_decide_eq_true (by first | (with_reducible assumption) | assumption)
                            obtain ⟨ad132, e132, hx132_0⟩ := Kd.at_int HR0.out x4_1 p132 q132
                            cases e132
                            replace hx132_0 := (HB.out.cell (World.block_lt_of_cell? w _ hx132_0)).trans hx132_0
                            replace p132 := eq_true p132
                            replace q132 := eq_true q132
                            go_wp2_with (first | (go_at_call 36; (with_reducible refine (spec_ISDecimal.calls kj11 (rd l0 x4_1) t133 _ A17.out).mono ?_); rintro e w27 ⟨rfl, hb⟩; have n0_ := Aside0.mk (below_step (by repeat (first | (with_reducible first | exact HB.out | apply below_alloc | apply pw_below_drewN | apply below_drew1) | exact HB.out)) hb); clear HB; have HB := n0_; clear n0_; (try clear hb); (try clear hb2); (try clear hk); (try clear hi)))
                            repeat (go_quiet (first | (go_at_call 36; (with_reducible refine (spec_ISDecimal.calls kj11 (rd l0 x4_1) t133 _ A17.out).mono ?_); rintro e w27 ⟨rfl, hb⟩; have n0_ := Aside0.mk (below_step (by repeat (first | (with_reducible first | exact HB.out | apply below_alloc | apply pw_below_drewN | apply below_drew1) | exact HB.out)) hb); clear HB; have HB := n0_; clear n0_; (try clear hb); (try clear hb2); (try clear hk); (try clear hi))); try go_wp2_with (first | (go_at_call 36; (with_reducible refine (spec_ISDecimal.calls kj11 (rd l0 x4_1) t133 _ A17.out).mono ?_); rintro e w27 ⟨rfl, hb⟩; have n0_ := Aside0.mk (below_step (by repeat (first | (with_reducible first | exact HB.out | apply below_alloc | apply pw_below_drewN | apply below_drew1) | exact HB.out)) hb); clear HB; have HB := n0_; clear n0_; (try clear hb); (try clear hb2); (try clear hk); (try clear hi))))
                            go_roundg kj11
                            case measure => have := HK1.out; have := HJ2.out; have := HJ9.out; have := HJ11.out; omega
                            case rel => exact ⟨(x3_11 ++ t133), (wrap64 (x5_9 + 1)), (by first | rfl | (simp; done) | (simp [*]; done)), (by first | rfl | (simp; done) | (simp [*]; done)), H', ⟨by have := HK1.out; have := HJ2.out; have := HJ9.out; have := HJ11.out; omega⟩, ⟨by repeat (first | (with_reducible first | exact HB.out | apply below_alloc | apply pw_below_drewN | apply below_drew1) | exact HB.out)⟩⟩
                        · rw [if_neg c18] at H
                          exact absurd H (by simp)
                      · rw [if_neg c16] at H
                        exact absurd H (by simp)
                    · rw [if_neg c15] at H
                      exact absurd H (by simp)
      · rw [if_neg c2] at H
        have c2b0 : decide (x4_1 < (l0.length : Int)) = false := decide_eq_false c2
        clear c2
        by_cases c28 : 1 + x3_1.size ≤ 9223372036854775807
        · rw [if_pos c28] at H
          have c28b0 := eq_true c28
          have c28b1 : decide (1 + x3_1.size ≤ 9223372036854775807) = true := decide_eq_true c28
          try have c28b2 : (9223372036854775807 < 1 + x3_1.size) = False := eq_false (Nat.not_lt.2 c28)
          by_cases c29 : ((⟨#[40]⟩ : ByteArray) ++ x3_1).size + 1 ≤ 9223372036854775807
          · rw [if_pos c29] at H
            have c29b6 : 1 + x3_1.size + 1 ≤ 9223372036854775807 := by have h := c29; rw [ByteArray.size_append] at h; exact h
            have c29b0 := eq_true c29
            have c29b1 : decide (((⟨#[40]⟩ : ByteArray) ++ x3_1).size + 1 ≤ 9223372036854775807) = true := decide_eq_true c29
            try have c29b2 : (9223372036854775807 < ((⟨#[40]⟩ : ByteArray) ++ x3_1).size + 1) = False := eq_false (Nat.not_lt.2 c29)
            obtain rfl := Option.some.inj H
            go_wp2
            repeat (go_quiet (fail); try go_wp2)
            go_ret
            exact ⟨by first | rfl | (simp [errW_none, errW_some] <;> rfl) | (simp [*, errW_none, errW_some] <;> rfl), by repeat (first | (with_reducible first | exact HB.out | apply below_alloc | apply pw_below_drewN | apply below_drew1) | exact HB.out)⟩
          · rw [if_neg c29] at H
            exact absurd H (by simp)
        · rw [if_neg c28] at H
          exact absurd H (by simp)

/-! ### laws_FnISText: function 6 -/
def laws_FnISText.f (k : Nat) (l0 : List Int) : Option (Bool) := if (l0.length : Int) > 2147483647 then (some true) else ((laws_isSet.f k l0).bind fun t136 => ((spec_ISPut.f k t136 5).bind fun t139 => ((impl_ISText.f t139).bind fun t142 => ((spec_ISText.f k t139).bind fun t143 => (some (t142.toList == t143.toList))))))
theorem laws_FnISText.mono : ∀ a0 k, LeO (laws_FnISText.f k a0) (laws_FnISText.f (k + 1) a0) := by
  intro a0 k
  unfold laws_FnISText.f
  repeat' first
      | (with_reducible exact laws_isSet.mono _ _)
      | (with_reducible exact spec_ISPut.mono _ _ _)
      | (with_reducible exact spec_ISText.mono _ _)
      | (with_reducible exact LeO.refl _)
      | (with_reducible exact LeO.none _)
      | (with_reducible refine LeO.ite ?_ ?_)
      | (with_reducible refine LeO.bind ?_ (fun _ => ?_))
      | exact laws_isSet.mono _ _
      | exact spec_ISPut.mono _ _ _
      | exact spec_ISText.mono _ _
      | exact LeO.none _
      | refine LeO.ite ?_ ?_
      | refine LeO.bind ?_ (fun _ => ?_)
set_option maxHeartbeats 8000000 in
set_option maxRecDepth 100000 in
theorem laws_FnISText.calls (k : Nat) (A0 : Option Addr) (c0 : Nat) (l0 : List Int) (r : Bool) (w : World) (hr0 : Kd.C (Kd.int .i64) w A0 l0.length l0) (hc0 : l0.length ≤ c0) (hg : Glob w) (h : laws_FnISText.f k l0 = some r) :
    Calls Tryd.prog 6 #[.slice A0 l0.length c0] w fun e w' => e = .returned (.bool r) ∧ Below w.heap.size w w' := by
  have HR0 := Aside0.mk hr0
  have HC0 := Aside0.mk hc0
  clear hr0 hc0
  have HB := Aside0.mk (Below.refl w.heap.size w)
  have H : (if (l0.length : Int) > 2147483647 then (some true) else ((laws_isSet.f k l0).bind fun t136 => ((spec_ISPut.f k t136 5).bind fun t139 => ((impl_ISText.f t139).bind fun t142 => ((spec_ISText.f k t139).bind fun t143 => (some (t142.toList == t143.toList))))))) = some r := h
  clear h
  by_cases c2 : (l0.length : Int) > 2147483647
  · rw [if_pos c2] at H
    have c2b0 : decide (2147483647 < (l0.length : Int)) = true := decide_eq_true c2
    have c2b1 : decide (2147483647 < l0.length) = true := decide_eq_true (by omega)
    clear c2
    obtain rfl := Option.some.inj H
    go_enter Tryd.func6, Tryd.ntmps6
    go_wp2
    go_ret
    exact ⟨by first | rfl | (simp [errW_none, errW_some] <;> rfl) | (simp [*, errW_none, errW_some] <;> rfl), by repeat (first | (with_reducible first | exact HB.out | apply below_alloc | apply pw_below_drewN | apply below_drew1) | exact HB.out)⟩
  · rw [if_neg c2] at H
    have c2b0 : decide (2147483647 < (l0.length : Int)) = false := decide_eq_false c2
    have c2b1 : decide (2147483647 < l0.length) = false := decide_eq_false (by omega)
    clear c2
    replace H := Option.bind_eq_some_iff.mp H
    obtain ⟨t136, A30, H⟩ := H
    replace H : ((spec_ISPut.f k t136 5).bind fun t139 => ((impl_ISText.f t139).bind fun t142 => ((spec_ISText.f k t139).bind fun t143 => (some (t142.toList == t143.toList))))) = some r := H
    have A3 := Aside0.mk A30
    clear A30
    replace H := Option.bind_eq_some_iff.mp H
    obtain ⟨t139, A40, H⟩ := H
    replace H : ((impl_ISText.f t139).bind fun t142 => ((spec_ISText.f k t139).bind fun t143 => (some (t142.toList == t143.toList)))) = some r := H
    have A4 := Aside0.mk A40
    clear A40
    replace H := Option.bind_eq_some_iff.mp H
    obtain ⟨t142, A50, H⟩ := H
    replace H : ((spec_ISText.f k t139).bind fun t143 => (some (t142.toList == t143.toList))) = some r := H
    have A5 := Aside0.mk A50
    clear A50
    replace H := Option.bind_eq_some_iff.mp H
    obtain ⟨t143, A60, H⟩ := H
    replace H : (some (t142.toList == t143.toList)) = some r := H
    have A6 := Aside0.mk A60
    clear A60
    obtain rfl := Option.some.inj H
    go_enter Tryd.func6, Tryd.ntmps6
    go_wp2_with (first | ((with_reducible refine gate_callee (f := 7) rfl ?_); refine goesL_ (some 8) rfl rfl Tryd.func7 (by kernel_rfl) rfl #[.slice A0 l0.length c0] rfl (by (try simp only [List.map_toArray, List.map_cons, List.map_nil]); first | done | rfl | (simp only [List.length_drop, List.length_take]; rfl)) ?_; (with_reducible refine (laws_isSet.calls k _ _ l0 t136 _ ?side1 ?side2 A3.out).mono ?_); (case side1 => repeat (first | exact HR0.out | (with_reducible refine Kd.C_alloc ?_ _) | (with_reducible refine Kd.C_drewN ?_ _) | (with_reducible refine Kd.C_drew ?_))); (case side2 => exact HC0.out); rintro e w7 ⟨v137, rfl, ho0, hb⟩; refine ⟨_, rfl, ?_⟩; have n0_ := Aside0.mk (Kd.R_lower ho0 (below_size (by repeat (first | (with_reducible first | exact HB.out | apply below_alloc | apply pw_below_drewN | apply below_drew1) | exact HB.out)))); have n1_ := Aside0.mk (below_step (by repeat (first | (with_reducible first | exact HB.out | apply below_alloc | apply pw_below_drewN | apply below_drew1) | exact HB.out)) hb); clear HB; have HO138 := n0_; have HB := n1_; clear n0_ n1_; (try clear hb); (try clear hb2); (try clear hk); (try clear hi); (try clear ho0); obtain ⟨Ao8, co8, eo8⟩ := Kd.R_slice HO138.out; subst eo8) | ((with_reducible refine gate_callee (f := 9) rfl ?_); refine goesL_ (some 9) rfl rfl Tryd.func9 (by kernel_rfl) rfl #[.slice Ao8 t136.length co8, .int .i64 5] rfl (by (try simp only [List.map_toArray, List.map_cons, List.map_nil]); first | done | rfl | (simp only [List.length_drop, List.length_take]; rfl)) ?_; (with_reducible refine (spec_ISPut.calls k _ _ t136 5 t139 _ ?side1 ?side2 A4.out).mono ?_); (case side1 => repeat (first | exact (Kd.R_reads' HO138.out).2.2 | (with_reducible refine Kd.C_alloc ?_ _) | (with_reducible refine Kd.C_drewN ?_ _) | (with_reducible refine Kd.C_drew ?_))); (case side2 => exact (Kd.R_reads' HO138.out).2.1); rintro e w9 ⟨v140, rfl, ho0, hb⟩; refine ⟨_, rfl, ?_⟩; have n0_ := Aside0.mk (Kd.R_elder' (by (with_reducible repeat (first | apply Kd.R_alloc | apply Kd.R_drewN | apply Kd.R_drew)); exact HO138.out) (Kd.R_base ho0) hb); have n1_ := Aside0.mk (Kd.R_lower (Kd.R_new' ho0 (Kd.R_lt (by (with_reducible repeat (first | apply Kd.R_alloc | apply Kd.R_drewN | apply Kd.R_drew)); exact HO138.out))) (below_size (by repeat (first | (with_reducible first | exact HB.out | apply below_alloc | apply pw_below_drewN | apply below_drew1) | exact HB.out)))); have n2_ := Aside0.mk (below_step (by repeat (first | (with_reducible first | exact HB.out | apply below_alloc | apply pw_below_drewN | apply below_drew1) | exact HB.out)) hb); clear HO138; clear HB; have HO138 := n0_; have HO141 := n1_; have HB := n2_; clear n0_ n1_ n2_; (try clear hb); (try clear hb2); (try clear hk); (try clear hi); (try clear ho0); obtain ⟨Ao10, co10, eo10⟩ := Kd.R_slice HO141.out; subst eo10) | ((with_reducible refine gate_callee (f := 18) rfl ?_); refine goesL_ (some 11) rfl rfl Tryd.func18 (by kernel_rfl) rfl #[.slice Ao10 t139.length co10] rfl (by (try simp only [List.map_toArray, List.map_cons, List.map_nil]); first | done | rfl | (simp only [List.length_drop, List.length_take]; rfl)) ?_; (with_reducible refine (impl_ISText.calls _ _ t139 t142 _ (Glob.later hg (by repeat (first | (with_reducible first | exact HB.out | apply below_alloc | apply pw_below_drewN | apply below_drew1) | exact HB.out))) ?side1 ?side2 A5.out).mono ?_); (case side1 => repeat (first | exact (Kd.R_reads' HO141.out).2.2 | (with_reducible refine Kd.C_alloc ?_ _) | (with_reducible refine Kd.C_drewN ?_ _) | (with_reducible refine Kd.C_drew ?_))); (case side2 => exact (Kd.R_reads' HO141.out).2.1); rintro e w11 ⟨rfl, hb⟩; refine ⟨_, rfl, ?_⟩; have n0_ := Aside0.mk (Kd.R_below (by (with_reducible repeat (first | apply Kd.R_alloc | apply Kd.R_drewN | apply Kd.R_drew)); exact HO138.out) hb); have n1_ := Aside0.mk (Kd.R_below (by (with_reducible repeat (first | apply Kd.R_alloc | apply Kd.R_drewN | apply Kd.R_drew)); exact HO141.out) hb); have n2_ := Aside0.mk (below_step (by repeat (first | (with_reducible first | exact HB.out | apply below_alloc | apply pw_below_drewN | apply below_drew1) | exact HB.out)) hb); clear HO138; clear HO141; clear HB; have HO138 := n0_; have HO141 := n1_; have HB := n2_; clear n0_ n1_ n2_; (try clear hb); (try clear hb2); (try clear hk); (try clear hi)) | ((with_reducible refine gate_callee (f := 19) rfl ?_); refine goesL_ (some 13) rfl rfl Tryd.func19 (by kernel_rfl) rfl #[.slice Ao10 t139.length co10] rfl (by (try simp only [List.map_toArray, List.map_cons, List.map_nil]); first | done | rfl | (simp only [List.length_drop, List.length_take]; rfl)) ?_; (with_reducible refine (spec_ISText.calls k _ _ t139 t143 _ ?side1 ?side2 A6.out).mono ?_); (case side1 => repeat (first | exact (Kd.R_reads' HO141.out).2.2 | (with_reducible refine Kd.C_alloc ?_ _) | (with_reducible refine Kd.C_drewN ?_ _) | (with_reducible refine Kd.C_drew ?_))); (case side2 => exact (Kd.R_reads' HO141.out).2.1); rintro e w12 ⟨rfl, hb⟩; refine ⟨_, rfl, ?_⟩; have n0_ := Aside0.mk (Kd.R_below (by (with_reducible repeat (first | apply Kd.R_alloc | apply Kd.R_drewN | apply Kd.R_drew)); exact HO138.out) hb); have n1_ := Aside0.mk (Kd.R_below (by (with_reducible repeat (first | apply Kd.R_alloc | apply Kd.R_drewN | apply Kd.R_drew)); exact HO141.out) hb); have n2_ := Aside0.mk (below_step (by repeat (first | (with_reducible first | exact HB.out | apply below_alloc | apply pw_below_drewN | apply below_drew1) | exact HB.out)) hb); clear HO138; clear HO141; clear HB; have HO138 := n0_; have HO141 := n1_; have HB := n2_; clear n0_ n1_ n2_; (try clear hb); (try clear hb2); (try clear hk); (try clear hi)))
    go_ret
    exact ⟨by first | rfl | (simp [errW_none, errW_some] <;> rfl) | (simp [*, errW_none, errW_some] <;> rfl), by repeat (first | (with_reducible first | exact HB.out | apply below_alloc | apply pw_below_drewN | apply below_drew1) | exact HB.out)⟩

/-- THE ONE PURE STATEMENT of laws_FnISText: yours. -/
def laws_FnISText.Pure : Prop := ∀ (l0 : List Int), l0.length ≤ maxLen → l0.length * 8 ≤ 140737488351232 → (∀ x ∈ l0, (Lit.int .i64 x).wf = true) → ∃ k, laws_FnISText.f k l0 = some true
theorem laws_FnISText.walk (P : laws_FnISText.Pure) (a0 : Option Addr) (len0 cap0 : Nat) (z0 : List Int) (w : World) (hg : Glob w) (w0 : (a0 = none ∧ len0 = 0 ∧ cap0 = 0 ∧ z0 = []) ∨ ∃ x, a0 = some x ∧ len0 ≤ cap0 ∧ cap0 ≤ maxLen ∧ z0.length = cap0 ∧ (∀ i, i < z0.length → w.cell? (x.add i) = some (.int .i64 (z0.getD i 0))) ∧ ∀ n ∈ z0, (Lit.int .i64 n).wf = true) (y0 : len0 * 8 ≤ 140737488351232) :
    Calls Tryd.prog 6 #[.slice a0 len0 cap0] w fun e w' => e = .returned (.bool true) ∧ Below w.heap.size w w' := by
  obtain ⟨l0, rfl, hr0, hm0, hw0, hc0⟩ := ReadsInt.ofRowC w0
  obtain ⟨k, h⟩ := P l0 hm0 y0 hw0
  refine (laws_FnISText.calls k _ _ l0 true w (Kd.C_of_reads (d := (0 : Int)) (h1 := fun _ => rfl) hr0) hc0 hg h).mono ?_
  rintro e w' ⟨rfl, hd⟩
  exact ⟨rfl, hd⟩

end Go.Proofs.YtlghbhkpdlkhjaaDoor.PIT
