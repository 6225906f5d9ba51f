-- written by gprint.py, a program of this claim's own, by means of the kit's print
import Derived.Test.YtlhaifbmacndeaaPJS0
namespace Go.Proofs.Ytlhaifbmacndeaa.PJS
open Go.RowKit Go.Proofs.YtlhaifbmacndeaaW.PrintWords Go.Proofs.YtlhaifbmacndeaaW.PrintLast Go.Proofs.YtlhaifbmacndeaaW.PrintMore
attribute [local go_sem] max2_int min2_int max_two min_two max_three min_three max_four min_four   -- for this text's walks alone
set_option linter.unusedVariables false
set_option linter.unusedSimpArgs false

/-! ### spec_JSBits: function 16 -/
mutual
def spec_JSBits.j0 : Nat → Int → Int → Option (Int)
  | 0, _, _ => none
  | k + 1, x0, x3 => spec_JSBits.l0 k x3 (IntKind.u64.wrap (x0)) 1075
def spec_JSBits.l0 : Nat → Int → Int → Int → Option (Int)
  | 0, _, _, _ => none
  | k + 1, x3, x4, x5 => if x4 < 4503599627370496 then (spec_JSBits.l0 k x3 (IntKind.u64.wrap (x4 * 2)) (IntKind.u64.wrap (x5 - 1))) else (spec_JSBits.l1 k x3 x4 x5)
def spec_JSBits.l1 : Nat → Int → Int → Int → Option (Int)
  | 0, _, _, _ => none
  | k + 1, x3, x4, x5 => if x4 ≥ 9007199254740992 then (spec_JSBits.l1 k x3 (x4 / 2) (IntKind.u64.wrap (x5 + 1))) else (some (Go.bits .or .u64 (Go.bits .or .u64 x3 (IntKind.u64.wrap (x5 * 4503599627370496))) (Go.bits .and .u64 x4 4503599627370495)))
end
def spec_JSBits.f (k : Nat) (a0 : Int) : Option (Int) := if a0 = 0 then (some 0) else (if a0 < 0 then (spec_JSBits.j0 k (wrap64 (-a0)) 9223372036854775808) else (spec_JSBits.j0 k a0 0))
theorem spec_JSBits.mono_l : ∀ k, (∀ y0 y1, LeO (spec_JSBits.j0 k y0 y1) (spec_JSBits.j0 (k + 1) y0 y1)) ∧ (∀ y0 y1 y2, LeO (spec_JSBits.l0 k y0 y1 y2) (spec_JSBits.l0 (k + 1) y0 y1 y2)) ∧ (∀ y0 y1 y2, LeO (spec_JSBits.l1 k y0 y1 y2) (spec_JSBits.l1 (k + 1) y0 y1 y2))
  | 0 => ⟨fun _ _ r h => by simp [spec_JSBits.j0] at h, fun _ _ _ r h => by simp [spec_JSBits.l0] at h, fun _ _ _ r h => by simp [spec_JSBits.l1] at h⟩
  | k + 1 => by
    obtain ⟨ih0, ih1, ih2⟩ := spec_JSBits.mono_l k
    refine ⟨?_, ?_, ?_⟩
    · intro y0 y1
      unfold spec_JSBits.j0
      repeat' first
      | (with_reducible exact ih0 _ _)
      | (with_reducible exact ih1 _ _ _)
      | (with_reducible exact ih2 _ _ _)
      | (with_reducible exact LeO.refl _)
      | (with_reducible exact LeO.none _)
      | (with_reducible refine LeO.ite ?_ ?_)
      | (with_reducible refine LeO.bind ?_ (fun _ => ?_))
      | exact ih0 _ _
      | exact ih1 _ _ _
      | exact ih2 _ _ _
      | exact LeO.none _
      | refine LeO.ite ?_ ?_
      | refine LeO.bind ?_ (fun _ => ?_)
    · intro y0 y1 y2
      unfold spec_JSBits.l0
      repeat' first
      | (with_reducible exact ih0 _ _)
      | (with_reducible exact ih1 _ _ _)
      | (with_reducible exact ih2 _ _ _)
      | (with_reducible exact LeO.refl _)
      | (with_reducible exact LeO.none _)
      | (with_reducible refine LeO.ite ?_ ?_)
      | (with_reducible refine LeO.bind ?_ (fun _ => ?_))
      | exact ih0 _ _
      | exact ih1 _ _ _
      | exact ih2 _ _ _
      | exact LeO.none _
      | refine LeO.ite ?_ ?_
      | refine LeO.bind ?_ (fun _ => ?_)
    · intro y0 y1 y2
      unfold spec_JSBits.l1
      repeat' first
      | (with_reducible exact ih0 _ _)
      | (with_reducible exact ih1 _ _ _)
      | (with_reducible exact ih2 _ _ _)
      | (with_reducible exact LeO.refl _)
      | (with_reducible exact LeO.none _)
      | (with_reducible refine LeO.ite ?_ ?_)
      | (with_reducible refine LeO.bind ?_ (fun _ => ?_))
      | exact ih0 _ _
      | exact ih1 _ _ _
      | exact ih2 _ _ _
      | exact LeO.none _
      | refine LeO.ite ?_ ?_
      | refine LeO.bind ?_ (fun _ => ?_)
theorem spec_JSBits.mono : ∀ a0 k, LeO (spec_JSBits.f k a0) (spec_JSBits.f (k + 1) a0) := by
  intro a0 k
  obtain ⟨ih0, ih1, ih2⟩ := spec_JSBits.mono_l k
  unfold spec_JSBits.f
  repeat' first
      | (with_reducible exact ih0 _ _)
      | (with_reducible exact ih1 _ _ _)
      | (with_reducible exact ih2 _ _ _)
      | (with_reducible exact LeO.refl _)
      | (with_reducible exact LeO.none _)
      | (with_reducible refine LeO.ite ?_ ?_)
      | (with_reducible refine LeO.bind ?_ (fun _ => ?_))
      | exact ih0 _ _
      | exact ih1 _ _ _
      | exact ih2 _ _ _
      | exact LeO.none _
      | refine LeO.ite ?_ ?_
      | refine LeO.bind ?_ (fun _ => ?_)
set_option maxHeartbeats 8000000 in
set_option maxRecDepth 100000 in
theorem spec_JSBits.calls (k : Nat) (a0 : Int) (r : Int) (w : World) (h : spec_JSBits.f k a0 = some r) :
    Calls Try.prog 16 #[.int .i64 a0] w fun e w' => e = .returned (.int .u64 r) ∧ Drawn0 w w' := by
  have H : (if a0 = 0 then (some 0) else (if a0 < 0 then (spec_JSBits.j0 k (wrap64 (-a0)) 9223372036854775808) else (spec_JSBits.j0 k a0 0))) = some r := h
  clear h
  by_cases c2 : a0 = 0
  · rw [if_pos c2] at H
    have c2b0 : (a0 == 0) = true := beq_iff_eq.mpr c2
    have c2b1 : (a0 != 0) = false := bne_eq_false_iff_eq.mpr c2
    clear c2
    obtain rfl := Option.some.inj H
    go_enter Try.func16, Try.ntmps16
    go_wp2
    go_ret
    exact ⟨by first | rfl | (simp; done) | (simp [*]; done), by repeat (first | exact Drawn0.refl _ | apply Drawn0.step)⟩
  · rw [if_neg c2] at H
    have c2b0 : (a0 == 0) = false := beq_eq_false_iff_ne.mpr c2
    have c2b1 : (a0 != 0) = true := bne_iff_ne.mpr c2
    have HC3 := Aside0.mk H
    clear H
    go_enter Try.func16, Try.ntmps16
    go_upto_if 9 with (fail)
    go_cut [0, 3] (fun v0 v3 wc => ∃ (kq : Nat) (x0_2 : Int) (x3_2 : Int), v0 = .int .i64 x0_2 ∧ v3 = .int .u64 x3_2 ∧ Aside0 (spec_JSBits.j0 kq x0_2 x3_2 = some r) ∧ Aside0 (kq ≤ k) ∧ Drawn0 w wc)
    case first =>
      have H := HC3.out
      clear HC3
      by_cases c4 : a0 < 0
      · rw [if_pos c4] at H
        have c4b0 : decide (a0 < 0) = true := decide_eq_true c4
        clear c4
        (first | rw [c4b0] | (simp only [i64_w, i32_w]; rw [c4b0]) | skip)
        have H' := Aside0.mk H
        clear H
        go_wp2
        go_meet
        case rel => exact ⟨_, (wrap64 (-a0)), (9223372036854775808), (by first | rfl | (simp; done) | (simp [*]; done)), (by first | rfl | (simp; done) | (simp [*]; done)), H', ⟨by first | omega | exact Nat.le_refl _⟩, by repeat (first | exact Drawn0.refl _ | apply Drawn0.step)⟩
      · rw [if_neg c4] at H
        have c4b0 : decide (a0 < 0) = false := decide_eq_false c4
        clear c4
        (first | rw [c4b0] | (simp only [i64_w, i32_w]; rw [c4b0]) | skip)
        have H' := Aside0.mk H
        clear H
        go_wp2
        go_meet
        case rel => exact ⟨_, (a0), (0), (by first | rfl | (simp; done) | (simp [*]; done)), (by first | rfl | (simp; done) | (simp [*]; done)), H', ⟨by first | omega | exact Nat.le_refl _⟩, by repeat (first | exact Drawn0.refl _ | apply Drawn0.step)⟩
    case rest =>
      clear HC3
      try clear c1
      try clear c2
      try clear c2b0
      try clear c2b1
      try clear p2
      try clear c4
      try clear c4b0
      obtain ⟨kq, x0_2, x3_2, rfl, rfl, HA, HJ2, ⟨mc2, rfl⟩⟩ := hcut
      cases kq with
      | zero => exact absurd HA.out (by simp [spec_JSBits.j0])
      | succ kj2 =>
        have H := HA.out
        clear HA
        simp only [spec_JSBits.j0] at H
        have H' := Aside0.mk H
        clear H
        go_wp2
        go_loopg [4, 5] kj2 (fun kq v4 v5 w' => ∃ (x4_2 : Int) (x5_2 : Int), v4 = .int .u64 x4_2 ∧ v5 = .int .u64 x5_2 ∧ Aside0 (spec_JSBits.l0 kq x3_2 x4_2 x5_2 = some r) ∧ Aside0 (kq ≤ kj2) ∧ Drawn0 w w')
        case atStart => exact ⟨(IntKind.u64.wrap (x0_2)), (1075), (by first | rfl | (simp; done) | (simp [*]; done)), (by first | rfl | (simp; done) | (simp [*]; done)), H', ⟨Nat.le_refl _⟩, by repeat (first | exact Drawn0.refl _ | apply Drawn0.step)⟩
        case round =>
          clear H'
          try clear c1
          try clear c2
          try clear c2b0
          try clear c2b1
          try clear p2
          try clear c4
          try clear c4b0
          try clear p2
          obtain ⟨x4_2, x5_2, rfl, rfl, HA, HK2, ⟨m2, rfl⟩⟩ := hrel
          cases gk with
          | zero => exact absurd HA.out (by simp [spec_JSBits.l0])
          | succ k2 =>
            have H := HA.out
            clear HA
            simp only [spec_JSBits.l0] at H
            by_cases c5 : x4_2 < 4503599627370496
            · rw [if_pos c5] at H
              have c5b0 : decide (x4_2 < 4503599627370496) = true := decide_eq_true c5
              clear c5
              have H' := Aside0.mk H
              clear H
              go_wp2
              go_roundg k2
              case measure => have := HJ2.out; have := HK2.out; omega
              case rel => exact ⟨(IntKind.u64.wrap (x4_2 * 2)), (IntKind.u64.wrap (x5_2 - 1)), (by first | rfl | (simp; done) | (simp [*]; done)), (by first | rfl | (simp; done) | (simp [*]; done)), H', ⟨by have := HJ2.out; have := HK2.out; omega⟩, by repeat (first | exact Drawn0.refl _ | apply Drawn0.step)⟩
            · rw [if_neg c5] at H
              have c5b0 : decide (x4_2 < 4503599627370496) = false := decide_eq_false c5
              clear c5
              have H' := Aside0.mk H
              clear H
              go_wp2
              go_loopg [4, 5] k2 (fun kq v4 v5 w' => ∃ (x4_3 : Int) (x5_3 : Int), v4 = .int .u64 x4_3 ∧ v5 = .int .u64 x5_3 ∧ Aside0 (spec_JSBits.l1 kq x3_2 x4_3 x5_3 = some r) ∧ Aside0 (kq ≤ k2) ∧ Drawn0 w w')
              case atStart => exact ⟨(x4_2), (x5_2), (by first | rfl | (simp; done) | (simp [*]; done)), (by first | rfl | (simp; done) | (simp [*]; done)), H', ⟨Nat.le_refl _⟩, by repeat (first | exact Drawn0.refl _ | apply Drawn0.step)⟩
              case round =>
                clear H'
                try clear c1
                try clear c2
                try clear c2b0
                try clear c2b1
                try clear p2
                try clear c4
                try clear c4b0
                try clear c5
                try clear c5b0
                try clear p2
                obtain ⟨x4_3, x5_3, rfl, rfl, HA, HK3, ⟨m3, rfl⟩⟩ := hrel
                cases gk with
                | zero => exact absurd HA.out (by simp [spec_JSBits.l1])
                | succ k3 =>
                  have H := HA.out
                  clear HA
                  simp only [spec_JSBits.l1] at H
                  by_cases c6 : x4_3 ≥ 9007199254740992
                  · rw [if_pos c6] at H
                    have c6b0 : decide (9007199254740992 ≤ x4_3) = true := decide_eq_true c6
                    clear c6
                    have H' := Aside0.mk H
                    clear H
                    go_wp2
                    go_roundg k3
                    case measure => have := HJ2.out; have := HK2.out; have := HK3.out; omega
                    case rel => exact ⟨(x4_3 / 2), (IntKind.u64.wrap (x5_3 + 1)), (by first | rfl | (simp; done) | (simp [*]; done)), (by first | rfl | (simp; done) | (simp [*]; done)), H', ⟨by have := HJ2.out; have := HK2.out; have := HK3.out; omega⟩, by repeat (first | exact Drawn0.refl _ | apply Drawn0.step)⟩
                  · rw [if_neg c6] at H
                    have c6b0 : decide (9007199254740992 ≤ x4_3) = false := decide_eq_false c6
                    clear c6
                    obtain rfl := Option.some.inj H
                    go_wp2
                    go_ret
                    exact ⟨by first | rfl | (simp; done) | (simp [*]; done), by repeat (first | exact Drawn0.refl _ | apply Drawn0.step)⟩

end Go.Proofs.Ytlhaifbmacndeaa.PJS
