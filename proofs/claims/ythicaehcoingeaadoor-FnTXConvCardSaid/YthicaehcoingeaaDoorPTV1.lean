-- written by gprint.py, a program of this claim's own, by means of the kit's print
import Derived.Test.YthicaehcoingeaaDoorPTV0
import Derived.Test.YthicaehcoingeaaDoorCVd
namespace Go.Proofs.YthicaehcoingeaaDoor.PTV
open Go.RowKit Go.Proofs.YthicaehcoingeaaDoorW.PrintWords Go.Proofs.YthicaehcoingeaaDoorW.PrintLast Go.Proofs.YthicaehcoingeaaDoorW.PrintMore
attribute [local go_sem] max2_int min2_int max_two min_two max_three min_three max_four min_four   -- for this text's walks alone
set_option linter.unusedVariables false
set_option linter.unusedSimpArgs false

/-! ### spec_TXDigits: function 24 -/
def spec_TXDigits.l0 : Nat → Int → Int → ByteArray → Option (ByteArray)
  | 0, _, _, _ => none
  | k + 1, x0, x1, x5 => if x0 > 0 then (if (IntKind.u64.wrap (x1)) = 0 then (none) else (if 0 ≤ (Int.tmod x0 (IntKind.u64.wrap (x1))) then (if (Int.tmod x0 (IntKind.u64.wrap (x1))) ≤ (IntKind.u64.wrap ((Int.tmod x0 (IntKind.u64.wrap (x1))) + 1)) then (if (IntKind.u64.wrap ((Int.tmod x0 (IntKind.u64.wrap (x1))) + 1)) ≤ 36 then (if ((⟨#[48, 49, 50, 51, 52, 53, 54, 55, 56, 57, 65, 66, 67, 68, 69, 70, 71, 72, 73, 74, 75, 76, 77, 78, 79, 80, 81, 82, 83, 84, 85, 86, 87, 88, 89, 90]⟩ : ByteArray).extract ((Int.tmod x0 (IntKind.u64.wrap (x1))) : Int).toNat ((IntKind.u64.wrap ((Int.tmod x0 (IntKind.u64.wrap (x1))) + 1)) : Int).toNat).size + x5.size ≤ 9223372036854775807 then (spec_TXDigits.l0 k (IntKind.u64.wrap (Int.tdiv x0 (IntKind.u64.wrap (x1)))) x1 (((⟨#[48, 49, 50, 51, 52, 53, 54, 55, 56, 57, 65, 66, 67, 68, 69, 70, 71, 72, 73, 74, 75, 76, 77, 78, 79, 80, 81, 82, 83, 84, 85, 86, 87, 88, 89, 90]⟩ : ByteArray).extract ((Int.tmod x0 (IntKind.u64.wrap (x1))) : Int).toNat ((IntKind.u64.wrap ((Int.tmod x0 (IntKind.u64.wrap (x1))) + 1)) : Int).toNat) ++ x5)) else (none)) else (none)) else (none)) else (none))) else (if x5.toList = ([] : List UInt8) then (if (IntKind.u64.wrap (x1)) = 0 then (none) else (if 0 ≤ (Int.tmod x0 (IntKind.u64.wrap (x1))) then (if (Int.tmod x0 (IntKind.u64.wrap (x1))) ≤ (IntKind.u64.wrap ((Int.tmod x0 (IntKind.u64.wrap (x1))) + 1)) then (if (IntKind.u64.wrap ((Int.tmod x0 (IntKind.u64.wrap (x1))) + 1)) ≤ 36 then (if ((⟨#[48, 49, 50, 51, 52, 53, 54, 55, 56, 57, 65, 66, 67, 68, 69, 70, 71, 72, 73, 74, 75, 76, 77, 78, 79, 80, 81, 82, 83, 84, 85, 86, 87, 88, 89, 90]⟩ : ByteArray).extract ((Int.tmod x0 (IntKind.u64.wrap (x1))) : Int).toNat ((IntKind.u64.wrap ((Int.tmod x0 (IntKind.u64.wrap (x1))) + 1)) : Int).toNat).size + x5.size ≤ 9223372036854775807 then (spec_TXDigits.l0 k (IntKind.u64.wrap (Int.tdiv x0 (IntKind.u64.wrap (x1)))) x1 (((⟨#[48, 49, 50, 51, 52, 53, 54, 55, 56, 57, 65, 66, 67, 68, 69, 70, 71, 72, 73, 74, 75, 76, 77, 78, 79, 80, 81, 82, 83, 84, 85, 86, 87, 88, 89, 90]⟩ : ByteArray).extract ((Int.tmod x0 (IntKind.u64.wrap (x1))) : Int).toNat ((IntKind.u64.wrap ((Int.tmod x0 (IntKind.u64.wrap (x1))) + 1)) : Int).toNat) ++ x5)) else (none)) else (none)) else (none)) else (none))) else (some x5))
def spec_TXDigits.f (k : Nat) (a0 : Int) (a1 : Int) : Option (ByteArray) := spec_TXDigits.l0 k a0 a1 (⟨#[]⟩ : ByteArray)
theorem spec_TXDigits.mono_l : ∀ k, (∀ y0 y1 y2, LeO (spec_TXDigits.l0 k y0 y1 y2) (spec_TXDigits.l0 (k + 1) y0 y1 y2))
  | 0 => fun _ _ _ r h => by simp [spec_TXDigits.l0] at h
  | k + 1 => by
    have ih0 := spec_TXDigits.mono_l k
    · intro y0 y1 y2
      unfold spec_TXDigits.l0
      repeat' first
      | (with_reducible exact ih0 _ _ _)
      | (with_reducible exact LeO.refl _)
      | (with_reducible exact LeO.none _)
      | (with_reducible refine LeO.ite ?_ ?_)
      | (with_reducible refine LeO.bind ?_ (fun _ => ?_))
      | exact ih0 _ _ _
      | exact LeO.none _
      | refine LeO.ite ?_ ?_
      | refine LeO.bind ?_ (fun _ => ?_)
theorem spec_TXDigits.mono : ∀ a0 a1 k, LeO (spec_TXDigits.f k a0 a1) (spec_TXDigits.f (k + 1) a0 a1) := by
  intro a0 a1 k
  have ih0 := spec_TXDigits.mono_l k
  unfold spec_TXDigits.f
  repeat' first
      | (with_reducible exact ih0 _ _ _)
      | (with_reducible exact LeO.refl _)
      | (with_reducible exact LeO.none _)
      | (with_reducible refine LeO.ite ?_ ?_)
      | (with_reducible refine LeO.bind ?_ (fun _ => ?_))
      | exact ih0 _ _ _
      | exact LeO.none _
      | refine LeO.ite ?_ ?_
      | refine LeO.bind ?_ (fun _ => ?_)
set_option maxHeartbeats 8000000 in
set_option maxRecDepth 100000 in
theorem spec_TXDigits.calls (k : Nat) (a0 : Int) (a1 : Int) (r : ByteArray) (w : World) (h : spec_TXDigits.f k a0 a1 = some r) :
    Calls Tryd.prog 24 #[.int .u64 a0, .int .i64 a1] w fun e w' => e = .returned (.string r) ∧ Drawn0 w w' := by
  have H : (spec_TXDigits.l0 k a0 a1 (⟨#[]⟩ : ByteArray)) = some r := h
  clear h
  have H' := Aside0.mk H
  clear H
  go_enter Tryd.func24, Tryd.ntmps24
  go_wp2
  repeat (go_quiet (fail); try go_wp2)
  go_loopg [0, 5] k (fun kq v0 v5 w' => ∃ (x0_1 : Int) (x5_1 : ByteArray), v0 = .int .u64 x0_1 ∧ v5 = .string x5_1 ∧ Aside0 (spec_TXDigits.l0 kq x0_1 a1 x5_1 = some r) ∧ Aside0 (kq ≤ k) ∧ Drawn0 w w')
  case atStart => exact ⟨(a0), ((⟨#[]⟩ : ByteArray)), (by first | rfl | (simp; done) | (simp [*]; done)), (by first | rfl | (simp; done) | (simp [*]; done)), H', ⟨Nat.le_refl _⟩, by repeat (first | exact Drawn0.refl _ | apply Drawn0.step)⟩
  case round =>
    clear H'
    try clear c2
    try clear p2
    obtain ⟨x0_1, x5_1, rfl, rfl, HA, HK1, ⟨m1, rfl⟩⟩ := hrel
    cases gk with
    | zero => exact absurd HA.out (by simp [spec_TXDigits.l0])
    | succ k1 =>
      have H := HA.out
      clear HA
      simp only [spec_TXDigits.l0] at H
      by_cases c3 : x0_1 > 0
      · rw [if_pos c3] at H
        have c3b0 : decide (0 < x0_1) = true := decide_eq_true c3
        clear c3
        by_cases c4 : (IntKind.u64.wrap (a1)) = 0
        · rw [if_pos c4] at H
          exact absurd H (by simp)
        · rw [if_neg c4] at H
          have c4b0 : ((IntKind.u64.wrap (a1)) == 0) = false := beq_eq_false_iff_ne.mpr c4
          have c4b1 : ((IntKind.u64.wrap (a1)) != 0) = true := bne_iff_ne.mpr c4
          obtain ⟨ji5, hji5⟩ : ∃ j_ : Int, (Int.tmod x0_1 (IntKind.u64.wrap (a1))) = j_ := ⟨_, rfl⟩
          replace H : (if 0 ≤ (ji5) then (if (ji5) ≤ (IntKind.u64.wrap ((ji5) + 1)) then (if (IntKind.u64.wrap ((ji5) + 1)) ≤ 36 then (if ((⟨#[48, 49, 50, 51, 52, 53, 54, 55, 56, 57, 65, 66, 67, 68, 69, 70, 71, 72, 73, 74, 75, 76, 77, 78, 79, 80, 81, 82, 83, 84, 85, 86, 87, 88, 89, 90]⟩ : ByteArray).extract ((ji5) : Int).toNat ((IntKind.u64.wrap ((ji5) + 1)) : Int).toNat).size + x5_1.size ≤ 9223372036854775807 then (spec_TXDigits.l0 k1 (IntKind.u64.wrap (Int.tdiv x0_1 (IntKind.u64.wrap (a1)))) a1 (((⟨#[48, 49, 50, 51, 52, 53, 54, 55, 56, 57, 65, 66, 67, 68, 69, 70, 71, 72, 73, 74, 75, 76, 77, 78, 79, 80, 81, 82, 83, 84, 85, 86, 87, 88, 89, 90]⟩ : ByteArray).extract ((ji5) : Int).toNat ((IntKind.u64.wrap ((ji5) + 1)) : Int).toNat) ++ x5_1)) else (none)) else (none)) else (none)) else (none)) = some r := by first | (rw [hji5] at H; exact H) | (simp only [hji5] at H ⊢; exact H)
          by_cases c6 : 0 ≤ (ji5)
          · rw [if_pos c6] at H
            have c6b0 := eq_true c6
            have c6b1 : decide (0 ≤ (ji5)) = true := decide_eq_true c6
            clear c6
            by_cases c7 : (ji5) ≤ (IntKind.u64.wrap ((ji5) + 1))
            · rw [if_pos c7] at H
              have c7b0 := eq_true c7
              have c7b1 : decide ((ji5) ≤ (IntKind.u64.wrap ((ji5) + 1))) = true := decide_eq_true c7
              by_cases c8 : (IntKind.u64.wrap ((ji5) + 1)) ≤ 36
              · rw [if_pos c8] at H
                have c8b0 := eq_true c8
                have c8b1 : decide ((IntKind.u64.wrap ((ji5) + 1)) ≤ 36) = true := decide_eq_true c8
                by_cases c9 : ((⟨#[48, 49, 50, 51, 52, 53, 54, 55, 56, 57, 65, 66, 67, 68, 69, 70, 71, 72, 73, 74, 75, 76, 77, 78, 79, 80, 81, 82, 83, 84, 85, 86, 87, 88, 89, 90]⟩ : ByteArray).extract ((ji5) : Int).toNat ((IntKind.u64.wrap ((ji5) + 1)) : Int).toNat).size + x5_1.size ≤ 9223372036854775807
                · rw [if_pos c9] at H
                  have c9b0 := eq_true c9
                  have c9b1 : decide (((⟨#[48, 49, 50, 51, 52, 53, 54, 55, 56, 57, 65, 66, 67, 68, 69, 70, 71, 72, 73, 74, 75, 76, 77, 78, 79, 80, 81, 82, 83, 84, 85, 86, 87, 88, 89, 90]⟩ : ByteArray).extract ((ji5) : Int).toNat ((IntKind.u64.wrap ((ji5) + 1)) : Int).toNat).size + x5_1.size ≤ 9223372036854775807) = true := decide_eq_true c9
                  try have c9b2 : (9223372036854775807 < ((⟨#[48, 49, 50, 51, 52, 53, 54, 55, 56, 57, 65, 66, 67, 68, 69, 70, 71, 72, 73, 74, 75, 76, 77, 78, 79, 80, 81, 82, 83, 84, 85, 86, 87, 88, 89, 90]⟩ : ByteArray).extract ((ji5) : Int).toNat ((IntKind.u64.wrap ((ji5) + 1)) : Int).toNat).size + x5_1.size) = False := eq_false (Nat.not_lt.2 c9)
                  have H' := Aside0.mk H
                  clear H
                  go_wp2
                  repeat (go_quiet (fail); try go_wp2)
                  go_roundg k1
                  case measure => have := HK1.out; omega
                  case rel => exact ⟨(IntKind.u64.wrap (Int.tdiv x0_1 (IntKind.u64.wrap (a1)))), (((⟨#[48, 49, 50, 51, 52, 53, 54, 55, 56, 57, 65, 66, 67, 68, 69, 70, 71, 72, 73, 74, 75, 76, 77, 78, 79, 80, 81, 82, 83, 84, 85, 86, 87, 88, 89, 90]⟩ : ByteArray).extract ((ji5) : Int).toNat ((IntKind.u64.wrap ((ji5) + 1)) : Int).toNat) ++ x5_1), (by first | rfl | (simp; done) | (simp [*]; done)), (by first | rfl | (simp; done) | (simp only [← hji5] <;> (first | rfl | simp)) | (simp [*]; done)), H', ⟨by have := HK1.out; omega⟩, by repeat (first | exact Drawn0.refl _ | apply Drawn0.step)⟩
                · rw [if_neg c9] at H
                  exact absurd H (by simp)
              · rw [if_neg c8] at H
                exact absurd H (by simp)
            · rw [if_neg c7] at H
              exact absurd H (by simp)
          · rw [if_neg c6] at H
            exact absurd H (by simp)
      · rw [if_neg c3] at H
        have c3b0 : decide (0 < x0_1) = false := decide_eq_false c3
        clear c3
        by_cases c10 : x5_1.toList = ([] : List UInt8)
        · rw [if_pos c10] at H
          have c10b0 : (x5_1.toList == ([] : List UInt8)) = true := beq_iff_eq.mpr c10
          have c10b1 : (x5_1.toList != ([] : List UInt8)) = false := bne_eq_false_iff_eq.mpr c10
          clear c10
          by_cases c11 : (IntKind.u64.wrap (a1)) = 0
          · rw [if_pos c11] at H
            exact absurd H (by simp)
          · rw [if_neg c11] at H
            have c11b0 : ((IntKind.u64.wrap (a1)) == 0) = false := beq_eq_false_iff_ne.mpr c11
            have c11b1 : ((IntKind.u64.wrap (a1)) != 0) = true := bne_iff_ne.mpr c11
            obtain ⟨ji12, hji12⟩ : ∃ j_ : Int, (Int.tmod x0_1 (IntKind.u64.wrap (a1))) = j_ := ⟨_, rfl⟩
            replace H : (if 0 ≤ (ji12) then (if (ji12) ≤ (IntKind.u64.wrap ((ji12) + 1)) then (if (IntKind.u64.wrap ((ji12) + 1)) ≤ 36 then (if ((⟨#[48, 49, 50, 51, 52, 53, 54, 55, 56, 57, 65, 66, 67, 68, 69, 70, 71, 72, 73, 74, 75, 76, 77, 78, 79, 80, 81, 82, 83, 84, 85, 86, 87, 88, 89, 90]⟩ : ByteArray).extract ((ji12) : Int).toNat ((IntKind.u64.wrap ((ji12) + 1)) : Int).toNat).size + x5_1.size ≤ 9223372036854775807 then (spec_TXDigits.l0 k1 (IntKind.u64.wrap (Int.tdiv x0_1 (IntKind.u64.wrap (a1)))) a1 (((⟨#[48, 49, 50, 51, 52, 53, 54, 55, 56, 57, 65, 66, 67, 68, 69, 70, 71, 72, 73, 74, 75, 76, 77, 78, 79, 80, 81, 82, 83, 84, 85, 86, 87, 88, 89, 90]⟩ : ByteArray).extract ((ji12) : Int).toNat ((IntKind.u64.wrap ((ji12) + 1)) : Int).toNat) ++ x5_1)) else (none)) else (none)) else (none)) else (none)) = some r := by first | (rw [hji12] at H; exact H) | (simp only [hji12] at H ⊢; exact H)
            by_cases c13 : 0 ≤ (ji12)
            · rw [if_pos c13] at H
              have c13b0 := eq_true c13
              have c13b1 : decide (0 ≤ (ji12)) = true := decide_eq_true c13
              clear c13
              by_cases c14 : (ji12) ≤ (IntKind.u64.wrap ((ji12) + 1))
              · rw [if_pos c14] at H
                have c14b0 := eq_true c14
                have c14b1 : decide ((ji12) ≤ (IntKind.u64.wrap ((ji12) + 1))) = true := decide_eq_true c14
                by_cases c15 : (IntKind.u64.wrap ((ji12) + 1)) ≤ 36
                · rw [if_pos c15] at H
                  have c15b0 := eq_true c15
                  have c15b1 : decide ((IntKind.u64.wrap ((ji12) + 1)) ≤ 36) = true := decide_eq_true c15
                  by_cases c16 : ((⟨#[48, 49, 50, 51, 52, 53, 54, 55, 56, 57, 65, 66, 67, 68, 69, 70, 71, 72, 73, 74, 75, 76, 77, 78, 79, 80, 81, 82, 83, 84, 85, 86, 87, 88, 89, 90]⟩ : ByteArray).extract ((ji12) : Int).toNat ((IntKind.u64.wrap ((ji12) + 1)) : Int).toNat).size + x5_1.size ≤ 9223372036854775807
                  · rw [if_pos c16] at H
                    have c16b0 := eq_true c16
                    have c16b1 : decide (((⟨#[48, 49, 50, 51, 52, 53, 54, 55, 56, 57, 65, 66, 67, 68, 69, 70, 71, 72, 73, 74, 75, 76, 77, 78, 79, 80, 81, 82, 83, 84, 85, 86, 87, 88, 89, 90]⟩ : ByteArray).extract ((ji12) : Int).toNat ((IntKind.u64.wrap ((ji12) + 1)) : Int).toNat).size + x5_1.size ≤ 9223372036854775807) = true := decide_eq_true c16
                    try have c16b2 : (9223372036854775807 < ((⟨#[48, 49, 50, 51, 52, 53, 54, 55, 56, 57, 65, 66, 67, 68, 69, 70, 71, 72, 73, 74, 75, 76, 77, 78, 79, 80, 81, 82, 83, 84, 85, 86, 87, 88, 89, 90]⟩ : ByteArray).extract ((ji12) : Int).toNat ((IntKind.u64.wrap ((ji12) + 1)) : Int).toNat).size + x5_1.size) = False := eq_false (Nat.not_lt.2 c16)
                    have H' := Aside0.mk H
                    clear H
                    go_wp2
                    repeat (go_quiet (fail); try go_wp2)
                    go_roundg k1
                    case measure => have := HK1.out; omega
                    case rel => exact ⟨(IntKind.u64.wrap (Int.tdiv x0_1 (IntKind.u64.wrap (a1)))), (((⟨#[48, 49, 50, 51, 52, 53, 54, 55, 56, 57, 65, 66, 67, 68, 69, 70, 71, 72, 73, 74, 75, 76, 77, 78, 79, 80, 81, 82, 83, 84, 85, 86, 87, 88, 89, 90]⟩ : ByteArray).extract ((ji12) : Int).toNat ((IntKind.u64.wrap ((ji12) + 1)) : Int).toNat) ++ x5_1), (by first | rfl | (simp; done) | (simp [*]; done)), (by first | rfl | (simp; done) | (simp only [← hji12] <;> (first | rfl | simp)) | (simp [*]; done)), H', ⟨by have := HK1.out; omega⟩, by repeat (first | exact Drawn0.refl _ | apply Drawn0.step)⟩
                  · rw [if_neg c16] at H
                    exact absurd H (by simp)
                · rw [if_neg c15] at H
                  exact absurd H (by simp)
              · rw [if_neg c14] at H
                exact absurd H (by simp)
            · rw [if_neg c13] at H
              exact absurd H (by simp)
        · rw [if_neg c10] at H
          have c10b0 : (x5_1.toList == ([] : List UInt8)) = false := beq_eq_false_iff_ne.mpr c10
          have c10b1 : (x5_1.toList != ([] : List UInt8)) = true := bne_iff_ne.mpr c10
          obtain rfl := Option.some.inj H
          go_wp2
          repeat (go_quiet (fail); try go_wp2)
          go_ret
          exact ⟨by first | rfl | (simp; done) | (simp [*]; done), by repeat (first | exact Drawn0.refl _ | apply Drawn0.step)⟩

/-! ### laws_FnTXConv: function 8 -/
def laws_FnTXConv.f (k : Nat) (a0 : Int) (a1 : Int) (a2 : Int) : Option (Bool) := (spec_TXDigits.f k (a0 / 2) (wrap64 (2 + (Int.tmod (wrap64 (a1)) 35)))).bind fun t101 => ((impl_TXConv.f t101 (wrap64 (2 + (Int.tmod (wrap64 (a1)) 35))) (wrap64 (2 + (Int.tmod (wrap64 (a2)) 35)))).bind fun bt102 => ((impl_TXConv.f bt102.1 (wrap64 (2 + (Int.tmod (wrap64 (a2)) 35))) (wrap64 (2 + (Int.tmod (wrap64 (a1)) 35)))).bind fun bt104 => (if bt102.2 = true then (if bt104.2 = true then ((spec_TXDigits.f k (a0 / 2) (wrap64 (2 + (Int.tmod (wrap64 (a2)) 35)))).bind fun t106 => (if bt102.1.toList = t106.toList then ((spec_TXDigits.f k (a0 / 2) (wrap64 (2 + (Int.tmod (wrap64 (a1)) 35)))).bind fun t107 => (some (bt104.1.toList == t107.toList))) else (some false))) else (some false)) else (some false))))
theorem laws_FnTXConv.mono : ∀ a0 a1 a2 k, LeO (laws_FnTXConv.f k a0 a1 a2) (laws_FnTXConv.f (k + 1) a0 a1 a2) := by
  intro a0 a1 a2 k
  unfold laws_FnTXConv.f
  repeat' first
      | (with_reducible exact spec_TXDigits.mono _ _ _)
      | (with_reducible exact LeO.refl _)
      | (with_reducible exact LeO.none _)
      | (with_reducible refine LeO.ite ?_ ?_)
      | (with_reducible refine LeO.bind ?_ (fun _ => ?_))
      | exact spec_TXDigits.mono _ _ _
      | exact LeO.none _
      | refine LeO.ite ?_ ?_
      | refine LeO.bind ?_ (fun _ => ?_)
set_option maxHeartbeats 8000000 in
set_option maxRecDepth 100000 in
theorem laws_FnTXConv.calls (k : Nat) (a0 : Int) (a1 : Int) (a2 : Int) (r : Bool) (w : World) (hg : Glob w) (h : laws_FnTXConv.f k a0 a1 a2 = some r) :
    Calls Tryd.prog 8 #[.int .u64 a0, .int .u8 a1, .int .u8 a2] w fun e w' => e = .returned (.bool r) ∧ Below w.heap.size w w' := by
  have HB := Aside0.mk (Below.refl w.heap.size w)
  have H : ((spec_TXDigits.f k (a0 / 2) (wrap64 (2 + (Int.tmod (wrap64 (a1)) 35)))).bind fun t101 => ((impl_TXConv.f t101 (wrap64 (2 + (Int.tmod (wrap64 (a1)) 35))) (wrap64 (2 + (Int.tmod (wrap64 (a2)) 35)))).bind fun bt102 => ((impl_TXConv.f bt102.1 (wrap64 (2 + (Int.tmod (wrap64 (a2)) 35))) (wrap64 (2 + (Int.tmod (wrap64 (a1)) 35)))).bind fun bt104 => (if bt102.2 = true then (if bt104.2 = true then ((spec_TXDigits.f k (a0 / 2) (wrap64 (2 + (Int.tmod (wrap64 (a2)) 35)))).bind fun t106 => (if bt102.1.toList = t106.toList then ((spec_TXDigits.f k (a0 / 2) (wrap64 (2 + (Int.tmod (wrap64 (a1)) 35)))).bind fun t107 => (some (bt104.1.toList == t107.toList))) else (some false))) else (some false)) else (some false))))) = some r := h
  clear h
  replace H := Option.bind_eq_some_iff.mp H
  obtain ⟨t101, A40, H⟩ := H
  replace H : ((impl_TXConv.f t101 (wrap64 (2 + (Int.tmod (wrap64 (a1)) 35))) (wrap64 (2 + (Int.tmod (wrap64 (a2)) 35)))).bind fun bt102 => ((impl_TXConv.f bt102.1 (wrap64 (2 + (Int.tmod (wrap64 (a2)) 35))) (wrap64 (2 + (Int.tmod (wrap64 (a1)) 35)))).bind fun bt104 => (if bt102.2 = true then (if bt104.2 = true then ((spec_TXDigits.f k (a0 / 2) (wrap64 (2 + (Int.tmod (wrap64 (a2)) 35)))).bind fun t106 => (if bt102.1.toList = t106.toList then ((spec_TXDigits.f k (a0 / 2) (wrap64 (2 + (Int.tmod (wrap64 (a1)) 35)))).bind fun t107 => (some (bt104.1.toList == t107.toList))) else (some false))) else (some false)) else (some false)))) = some r := H
  have A4 := Aside0.mk A40
  clear A40
  replace H := Option.bind_eq_some_iff.mp H
  obtain ⟨⟨t102, t103⟩, A50, H⟩ := H
  replace H : ((impl_TXConv.f t102 (wrap64 (2 + (Int.tmod (wrap64 (a2)) 35))) (wrap64 (2 + (Int.tmod (wrap64 (a1)) 35)))).bind fun bt104 => (if t103 = true then (if bt104.2 = true then ((spec_TXDigits.f k (a0 / 2) (wrap64 (2 + (Int.tmod (wrap64 (a2)) 35)))).bind fun t106 => (if t102.toList = t106.toList then ((spec_TXDigits.f k (a0 / 2) (wrap64 (2 + (Int.tmod (wrap64 (a1)) 35)))).bind fun t107 => (some (bt104.1.toList == t107.toList))) else (some false))) else (some false)) else (some false))) = some r := H
  have A5 := Aside0.mk A50
  clear A50
  replace H := Option.bind_eq_some_iff.mp H
  obtain ⟨⟨t104, t105⟩, A60, H⟩ := H
  replace H : (if t103 = true then (if t105 = true then ((spec_TXDigits.f k (a0 / 2) (wrap64 (2 + (Int.tmod (wrap64 (a2)) 35)))).bind fun t106 => (if t102.toList = t106.toList then ((spec_TXDigits.f k (a0 / 2) (wrap64 (2 + (Int.tmod (wrap64 (a1)) 35)))).bind fun t107 => (some (t104.toList == t107.toList))) else (some false))) else (some false)) else (some false)) = some r := H
  have A6 := Aside0.mk A60
  clear A60
  by_cases c7 : t103 = true
  · subst c7
    have H1 : (if t105 = true then ((spec_TXDigits.f k (a0 / 2) (wrap64 (2 + (Int.tmod (wrap64 (a2)) 35)))).bind fun t106 => (if t102.toList = t106.toList then ((spec_TXDigits.f k (a0 / 2) (wrap64 (2 + (Int.tmod (wrap64 (a1)) 35)))).bind fun t107 => (some (t104.toList == t107.toList))) else (some false))) else (some false)) = some r := by rw [if_pos rfl] at H; exact H
    clear H
    have H := H1
    clear H1
    by_cases c8 : t105 = true
    · subst c8
      have H1 : ((spec_TXDigits.f k (a0 / 2) (wrap64 (2 + (Int.tmod (wrap64 (a2)) 35)))).bind fun t106 => (if t102.toList = t106.toList then ((spec_TXDigits.f k (a0 / 2) (wrap64 (2 + (Int.tmod (wrap64 (a1)) 35)))).bind fun t107 => (some (t104.toList == t107.toList))) else (some false))) = some r := by rw [if_pos rfl] at H; exact H
      clear H
      have H := H1
      clear H1
      replace H := Option.bind_eq_some_iff.mp H
      obtain ⟨t106, A90, H⟩ := H
      replace H : (if t102.toList = t106.toList then ((spec_TXDigits.f k (a0 / 2) (wrap64 (2 + (Int.tmod (wrap64 (a1)) 35)))).bind fun t107 => (some (t104.toList == t107.toList))) else (some false)) = some r := H
      have A9 := Aside0.mk A90
      clear A90
      by_cases c10 : t102.toList = t106.toList
      · rw [if_pos c10] at H
        have c10b0 : (t102.toList == t106.toList) = true := beq_iff_eq.mpr c10
        have c10b1 : (t102.toList != t106.toList) = false := bne_eq_false_iff_eq.mpr c10
        clear c10
        replace H := Option.bind_eq_some_iff.mp H
        obtain ⟨t107, A110, H⟩ := H
        replace H : (some (t104.toList == t107.toList)) = some r := H
        have A11 := Aside0.mk A110
        clear A110
        obtain rfl := Option.some.inj H
        go_enter Tryd.func8, Tryd.ntmps8
        go_wp2_with (first | ((with_reducible refine gate_callee (f := 24) rfl ?_); refine goesL_ (some 27) rfl rfl Tryd.func24 (by kernel_rfl) rfl #[.int .u64 (a0 / 2), .int .i64 (wrap64 (2 + (Int.tmod (wrap64 (a1)) 35)))] rfl (by (try simp only [List.map_toArray, List.map_cons, List.map_nil]); first | done | rfl | (simp only [List.length_drop, List.length_take]; rfl)) ?_; (with_reducible refine (spec_TXDigits.calls k (a0 / 2) (wrap64 (2 + (Int.tmod (wrap64 (a1)) 35))) t101 _ A4.out).mono ?_); rintro e w' ⟨rfl, ⟨nd, rfl⟩⟩; refine ⟨_, rfl, ?_⟩) | ((with_reducible refine gate_callee (f := 23) rfl ?_); refine goesL_ (some 30) rfl rfl Tryd.func23 (by kernel_rfl) rfl #[.string t101, .int .i64 (wrap64 (2 + (Int.tmod (wrap64 (a1)) 35))), .int .i64 (wrap64 (2 + (Int.tmod (wrap64 (a2)) 35)))] rfl (by (try simp only [List.map_toArray, List.map_cons, List.map_nil]); first | done | rfl | (simp only [List.length_drop, List.length_take]; rfl)) ?_; (with_reducible refine (impl_TXConv.calls t101 (wrap64 (2 + (Int.tmod (wrap64 (a1)) 35))) (wrap64 (2 + (Int.tmod (wrap64 (a2)) 35))) t102 true _ (Glob.later hg (by repeat (first | (with_reducible first | exact HB.out | apply below_alloc | apply pw_below_drewN | apply below_drew1) | exact HB.out))) A5.out).mono ?_); rintro e w12 ⟨rfl, hb⟩; refine ⟨_, rfl, ?_⟩; have n0_ := Aside0.mk (below_step (by repeat (first | (with_reducible first | exact HB.out | apply below_alloc | apply pw_below_drewN | apply below_drew1) | exact HB.out)) hb); clear HB; have HB := n0_; clear n0_; (try clear hb); (try clear hb2); (try clear hk); (try clear hi)) | ((with_reducible refine gate_callee (f := 23) rfl ?_); refine goesL_ (some 37) rfl rfl Tryd.func23 (by kernel_rfl) rfl #[.string t102, .int .i64 (wrap64 (2 + (Int.tmod (wrap64 (a2)) 35))), .int .i64 (wrap64 (2 + (Int.tmod (wrap64 (a1)) 35)))] rfl (by (try simp only [List.map_toArray, List.map_cons, List.map_nil]); first | done | rfl | (simp only [List.length_drop, List.length_take]; rfl)) ?_; (with_reducible refine (impl_TXConv.calls t102 (wrap64 (2 + (Int.tmod (wrap64 (a2)) 35))) (wrap64 (2 + (Int.tmod (wrap64 (a1)) 35))) t104 true _ (Glob.later hg (by repeat (first | (with_reducible first | exact HB.out | apply below_alloc | apply pw_below_drewN | apply below_drew1) | exact HB.out))) A6.out).mono ?_); rintro e w13 ⟨rfl, hb⟩; refine ⟨_, rfl, ?_⟩; have n0_ := Aside0.mk (below_step (by repeat (first | (with_reducible first | exact HB.out | apply below_alloc | apply pw_below_drewN | apply below_drew1) | exact HB.out)) hb); clear HB; have HB := n0_; clear n0_; (try clear hb); (try clear hb2); (try clear hk); (try clear hi)) | (go_at_call 24; (with_reducible refine (spec_TXDigits.calls k (a0 / 2) (wrap64 (2 + (Int.tmod (wrap64 (a2)) 35))) t106 _ A9.out).mono ?_); rintro e w' ⟨rfl, ⟨nd, rfl⟩⟩) | (go_at_call 24; (with_reducible refine (spec_TXDigits.calls k (a0 / 2) (wrap64 (2 + (Int.tmod (wrap64 (a1)) 35))) t107 _ A11.out).mono ?_); rintro e w' ⟨rfl, ⟨nd, rfl⟩⟩))
        go_ret
        exact ⟨by first | rfl | (simp [errW_none, errW_some] <;> rfl) | (simp [*, errW_none, errW_some] <;> rfl), by repeat (first | (with_reducible first | exact HB.out | apply below_alloc | apply pw_below_drewN | apply below_drew1) | exact HB.out)⟩
      · rw [if_neg c10] at H
        have c10b0 : (t102.toList == t106.toList) = false := beq_eq_false_iff_ne.mpr c10
        have c10b1 : (t102.toList != t106.toList) = true := bne_iff_ne.mpr c10
        obtain rfl := Option.some.inj H
        go_enter Tryd.func8, Tryd.ntmps8
        go_wp2_with (first | ((with_reducible refine gate_callee (f := 24) rfl ?_); refine goesL_ (some 27) rfl rfl Tryd.func24 (by kernel_rfl) rfl #[.int .u64 (a0 / 2), .int .i64 (wrap64 (2 + (Int.tmod (wrap64 (a1)) 35)))] rfl (by (try simp only [List.map_toArray, List.map_cons, List.map_nil]); first | done | rfl | (simp only [List.length_drop, List.length_take]; rfl)) ?_; (with_reducible refine (spec_TXDigits.calls k (a0 / 2) (wrap64 (2 + (Int.tmod (wrap64 (a1)) 35))) t101 _ A4.out).mono ?_); rintro e w' ⟨rfl, ⟨nd, rfl⟩⟩; refine ⟨_, rfl, ?_⟩) | ((with_reducible refine gate_callee (f := 23) rfl ?_); refine goesL_ (some 30) rfl rfl Tryd.func23 (by kernel_rfl) rfl #[.string t101, .int .i64 (wrap64 (2 + (Int.tmod (wrap64 (a1)) 35))), .int .i64 (wrap64 (2 + (Int.tmod (wrap64 (a2)) 35)))] rfl (by (try simp only [List.map_toArray, List.map_cons, List.map_nil]); first | done | rfl | (simp only [List.length_drop, List.length_take]; rfl)) ?_; (with_reducible refine (impl_TXConv.calls t101 (wrap64 (2 + (Int.tmod (wrap64 (a1)) 35))) (wrap64 (2 + (Int.tmod (wrap64 (a2)) 35))) t102 true _ (Glob.later hg (by repeat (first | (with_reducible first | exact HB.out | apply below_alloc | apply pw_below_drewN | apply below_drew1) | exact HB.out))) A5.out).mono ?_); rintro e w14 ⟨rfl, hb⟩; refine ⟨_, rfl, ?_⟩; have n0_ := Aside0.mk (below_step (by repeat (first | (with_reducible first | exact HB.out | apply below_alloc | apply pw_below_drewN | apply below_drew1) | exact HB.out)) hb); clear HB; have HB := n0_; clear n0_; (try clear hb); (try clear hb2); (try clear hk); (try clear hi)) | ((with_reducible refine gate_callee (f := 23) rfl ?_); refine goesL_ (some 37) rfl rfl Tryd.func23 (by kernel_rfl) rfl #[.string t102, .int .i64 (wrap64 (2 + (Int.tmod (wrap64 (a2)) 35))), .int .i64 (wrap64 (2 + (Int.tmod (wrap64 (a1)) 35)))] rfl (by (try simp only [List.map_toArray, List.map_cons, List.map_nil]); first | done | rfl | (simp only [List.length_drop, List.length_take]; rfl)) ?_; (with_reducible refine (impl_TXConv.calls t102 (wrap64 (2 + (Int.tmod (wrap64 (a2)) 35))) (wrap64 (2 + (Int.tmod (wrap64 (a1)) 35))) t104 true _ (Glob.later hg (by repeat (first | (with_reducible first | exact HB.out | apply below_alloc | apply pw_below_drewN | apply below_drew1) | exact HB.out))) A6.out).mono ?_); rintro e w15 ⟨rfl, hb⟩; refine ⟨_, rfl, ?_⟩; have n0_ := Aside0.mk (below_step (by repeat (first | (with_reducible first | exact HB.out | apply below_alloc | apply pw_below_drewN | apply below_drew1) | exact HB.out)) hb); clear HB; have HB := n0_; clear n0_; (try clear hb); (try clear hb2); (try clear hk); (try clear hi)) | (go_at_call 24; (with_reducible refine (spec_TXDigits.calls k (a0 / 2) (wrap64 (2 + (Int.tmod (wrap64 (a2)) 35))) t106 _ A9.out).mono ?_); rintro e w' ⟨rfl, ⟨nd, rfl⟩⟩))
        go_ret
        exact ⟨by first | rfl | (simp [errW_none, errW_some] <;> rfl) | (simp [*, errW_none, errW_some] <;> rfl), by repeat (first | (with_reducible first | exact HB.out | apply below_alloc | apply pw_below_drewN | apply below_drew1) | exact HB.out)⟩
    · replace c8 := Bool.eq_false_iff.mpr c8
      subst c8
      have H1 : (some false) = some r := by rw [if_neg (show ¬ (false = true) by decide)] at H; exact H
      clear H
      have H := H1
      clear H1
      obtain rfl := Option.some.inj H
      go_enter Tryd.func8, Tryd.ntmps8
      go_wp2_with (first | ((with_reducible refine gate_callee (f := 24) rfl ?_); refine goesL_ (some 27) rfl rfl Tryd.func24 (by kernel_rfl) rfl #[.int .u64 (a0 / 2), .int .i64 (wrap64 (2 + (Int.tmod (wrap64 (a1)) 35)))] rfl (by (try simp only [List.map_toArray, List.map_cons, List.map_nil]); first | done | rfl | (simp only [List.length_drop, List.length_take]; rfl)) ?_; (with_reducible refine (spec_TXDigits.calls k (a0 / 2) (wrap64 (2 + (Int.tmod (wrap64 (a1)) 35))) t101 _ A4.out).mono ?_); rintro e w' ⟨rfl, ⟨nd, rfl⟩⟩; refine ⟨_, rfl, ?_⟩) | ((with_reducible refine gate_callee (f := 23) rfl ?_); refine goesL_ (some 30) rfl rfl Tryd.func23 (by kernel_rfl) rfl #[.string t101, .int .i64 (wrap64 (2 + (Int.tmod (wrap64 (a1)) 35))), .int .i64 (wrap64 (2 + (Int.tmod (wrap64 (a2)) 35)))] rfl (by (try simp only [List.map_toArray, List.map_cons, List.map_nil]); first | done | rfl | (simp only [List.length_drop, List.length_take]; rfl)) ?_; (with_reducible refine (impl_TXConv.calls t101 (wrap64 (2 + (Int.tmod (wrap64 (a1)) 35))) (wrap64 (2 + (Int.tmod (wrap64 (a2)) 35))) t102 true _ (Glob.later hg (by repeat (first | (with_reducible first | exact HB.out | apply below_alloc | apply pw_below_drewN | apply below_drew1) | exact HB.out))) A5.out).mono ?_); rintro e w16 ⟨rfl, hb⟩; refine ⟨_, rfl, ?_⟩; have n0_ := Aside0.mk (below_step (by repeat (first | (with_reducible first | exact HB.out | apply below_alloc | apply pw_below_drewN | apply below_drew1) | exact HB.out)) hb); clear HB; have HB := n0_; clear n0_; (try clear hb); (try clear hb2); (try clear hk); (try clear hi)) | ((with_reducible refine gate_callee (f := 23) rfl ?_); refine goesL_ (some 37) rfl rfl Tryd.func23 (by kernel_rfl) rfl #[.string t102, .int .i64 (wrap64 (2 + (Int.tmod (wrap64 (a2)) 35))), .int .i64 (wrap64 (2 + (Int.tmod (wrap64 (a1)) 35)))] rfl (by (try simp only [List.map_toArray, List.map_cons, List.map_nil]); first | done | rfl | (simp only [List.length_drop, List.length_take]; rfl)) ?_; (with_reducible refine (impl_TXConv.calls t102 (wrap64 (2 + (Int.tmod (wrap64 (a2)) 35))) (wrap64 (2 + (Int.tmod (wrap64 (a1)) 35))) t104 false _ (Glob.later hg (by repeat (first | (with_reducible first | exact HB.out | apply below_alloc | apply pw_below_drewN | apply below_drew1) | exact HB.out))) A6.out).mono ?_); rintro e w17 ⟨rfl, hb⟩; refine ⟨_, rfl, ?_⟩; have n0_ := Aside0.mk (below_step (by repeat (first | (with_reducible first | exact HB.out | apply below_alloc | apply pw_below_drewN | apply below_drew1) | exact HB.out)) hb); clear HB; have HB := n0_; clear n0_; (try clear hb); (try clear hb2); (try clear hk); (try clear hi)))
      go_ret
      exact ⟨by first | rfl | (simp [errW_none, errW_some] <;> rfl) | (simp [*, errW_none, errW_some] <;> rfl), by repeat (first | (with_reducible first | exact HB.out | apply below_alloc | apply pw_below_drewN | apply below_drew1) | exact HB.out)⟩
  · replace c7 := Bool.eq_false_iff.mpr c7
    subst c7
    have H1 : (some false) = some r := by rw [if_neg (show ¬ (false = true) by decide)] at H; exact H
    clear H
    have H := H1
    clear H1
    obtain rfl := Option.some.inj H
    go_enter Tryd.func8, Tryd.ntmps8
    go_wp2_with (first | ((with_reducible refine gate_callee (f := 24) rfl ?_); refine goesL_ (some 27) rfl rfl Tryd.func24 (by kernel_rfl) rfl #[.int .u64 (a0 / 2), .int .i64 (wrap64 (2 + (Int.tmod (wrap64 (a1)) 35)))] rfl (by (try simp only [List.map_toArray, List.map_cons, List.map_nil]); first | done | rfl | (simp only [List.length_drop, List.length_take]; rfl)) ?_; (with_reducible refine (spec_TXDigits.calls k (a0 / 2) (wrap64 (2 + (Int.tmod (wrap64 (a1)) 35))) t101 _ A4.out).mono ?_); rintro e w' ⟨rfl, ⟨nd, rfl⟩⟩; refine ⟨_, rfl, ?_⟩) | ((with_reducible refine gate_callee (f := 23) rfl ?_); refine goesL_ (some 30) rfl rfl Tryd.func23 (by kernel_rfl) rfl #[.string t101, .int .i64 (wrap64 (2 + (Int.tmod (wrap64 (a1)) 35))), .int .i64 (wrap64 (2 + (Int.tmod (wrap64 (a2)) 35)))] rfl (by (try simp only [List.map_toArray, List.map_cons, List.map_nil]); first | done | rfl | (simp only [List.length_drop, List.length_take]; rfl)) ?_; (with_reducible refine (impl_TXConv.calls t101 (wrap64 (2 + (Int.tmod (wrap64 (a1)) 35))) (wrap64 (2 + (Int.tmod (wrap64 (a2)) 35))) t102 false _ (Glob.later hg (by repeat (first | (with_reducible first | exact HB.out | apply below_alloc | apply pw_below_drewN | apply below_drew1) | exact HB.out))) A5.out).mono ?_); rintro e w18 ⟨rfl, hb⟩; refine ⟨_, rfl, ?_⟩; have n0_ := Aside0.mk (below_step (by repeat (first | (with_reducible first | exact HB.out | apply below_alloc | apply pw_below_drewN | apply below_drew1) | exact HB.out)) hb); clear HB; have HB := n0_; clear n0_; (try clear hb); (try clear hb2); (try clear hk); (try clear hi)) | ((with_reducible refine gate_callee (f := 23) rfl ?_); refine goesL_ (some 37) rfl rfl Tryd.func23 (by kernel_rfl) rfl #[.string t102, .int .i64 (wrap64 (2 + (Int.tmod (wrap64 (a2)) 35))), .int .i64 (wrap64 (2 + (Int.tmod (wrap64 (a1)) 35)))] rfl (by (try simp only [List.map_toArray, List.map_cons, List.map_nil]); first | done | rfl | (simp only [List.length_drop, List.length_take]; rfl)) ?_; (with_reducible refine (impl_TXConv.calls t102 (wrap64 (2 + (Int.tmod (wrap64 (a2)) 35))) (wrap64 (2 + (Int.tmod (wrap64 (a1)) 35))) t104 t105 _ (Glob.later hg (by repeat (first | (with_reducible first | exact HB.out | apply below_alloc | apply pw_below_drewN | apply below_drew1) | exact HB.out))) A6.out).mono ?_); rintro e w19 ⟨rfl, hb⟩; refine ⟨_, rfl, ?_⟩; have n0_ := Aside0.mk (below_step (by repeat (first | (with_reducible first | exact HB.out | apply below_alloc | apply pw_below_drewN | apply below_drew1) | exact HB.out)) hb); clear HB; have HB := n0_; clear n0_; (try clear hb); (try clear hb2); (try clear hk); (try clear hi)))
    go_ret
    exact ⟨by first | rfl | (simp [errW_none, errW_some] <;> rfl) | (simp [*, errW_none, errW_some] <;> rfl), by repeat (first | (with_reducible first | exact HB.out | apply below_alloc | apply pw_below_drewN | apply below_drew1) | exact HB.out)⟩

/-- THE ONE PURE STATEMENT of laws_FnTXConv: yours. -/
def laws_FnTXConv.Pure : Prop := ∀ (a0 : Int) (a1 : Int) (a2 : Int), (Lit.int .u64 a0).wf = true → (Lit.int .u8 a1).wf = true → (Lit.int .u8 a2).wf = true → ∃ k, laws_FnTXConv.f k a0 a1 a2 = some true
theorem laws_FnTXConv.walk (P : laws_FnTXConv.Pure) (a0 : Int) (a1 : Int) (a2 : Int) (w : World) (hg : Glob w) (w0 : (Lit.int .u64 a0).wf = true) (w1 : (Lit.int .u8 a1).wf = true) (w2 : (Lit.int .u8 a2).wf = true) :
    Calls Tryd.prog 8 #[.int .u64 a0, .int .u8 a1, .int .u8 a2] w fun e w' => e = .returned (.bool true) ∧ Below w.heap.size w w' := by
  obtain ⟨k, h⟩ := P a0 a1 a2 w0 w1 w2
  refine (laws_FnTXConv.calls k a0 a1 a2 true w hg h).mono ?_
  rintro e w' ⟨rfl, hd⟩
  exact ⟨rfl, hd⟩

end Go.Proofs.YthicaehcoingeaaDoor.PTV
