-- written by gprint.py, a program of this claim's own, by means of the kit's print
import Derived.Test.YthicaehcoingeaaPTX0
import Derived.Test.YthicaehcoingeaaTXPadGiven
namespace Go.Proofs.Ythicaehcoingeaa.PTX
open Go.RowKit Go.Proofs.YthicaehcoingeaaW.PrintWords Go.Proofs.YthicaehcoingeaaW.PrintLast Go.Proofs.YthicaehcoingeaaW.PrintMore
attribute [local go_sem] max2_int min2_int max_two min_two max_three min_three max_four min_four   -- for this text's walks alone
set_option linter.unusedVariables false
set_option linter.unusedSimpArgs false

/-! ### laws_txPlain: function 8 -/
def laws_txPlain.l0 : Nat → List Int → ByteArray → Int → Option (ByteArray)
  | 0, _, _, _ => none
  | k + 1, x0, x3, x4 => if x4 < (x0.length : Int) then (if x4 < 40 then (if 0 ≤ x4 then ((some (([(32 + (Int.tmod (rd x0 x4) 95)) % 256] : List Int) : List Int)).bind fun y102 => (if x3.size + (strOfNums y102).size ≤ 9223372036854775807 then (laws_txPlain.l0 k x0 (x3 ++ (strOfNums y102)) (wrap64 (x4 + 1))) else (none))) else (none)) else (some x3)) else (some x3)
def laws_txPlain.f (k : Nat) (l0 : List Int) : Option (ByteArray) := laws_txPlain.l0 k l0 (⟨#[]⟩ : ByteArray) 0
theorem laws_txPlain.mono_l : ∀ k, (∀ y0 y1 y2, LeO (laws_txPlain.l0 k y0 y1 y2) (laws_txPlain.l0 (k + 1) y0 y1 y2))
  | 0 => fun _ _ _ r h => by simp [laws_txPlain.l0] at h
  | k + 1 => by
    have ih0 := laws_txPlain.mono_l k
    · intro y0 y1 y2
      unfold laws_txPlain.l0
      repeat' first
      | (with_reducible exact ih0 _ _ _)
      | (with_reducible exact LeO.refl _)
      | (with_reducible exact LeO.none _)
      | (with_reducible refine LeO.ite ?_ ?_)
      | (with_reducible refine LeO.bind ?_ (fun _ => ?_))
      | exact ih0 _ _ _
      | exact LeO.none _
      | refine LeO.ite ?_ ?_
      | refine LeO.bind ?_ (fun _ => ?_)
theorem laws_txPlain.mono : ∀ a0 k, LeO (laws_txPlain.f k a0) (laws_txPlain.f (k + 1) a0) := by
  intro a0 k
  have ih0 := laws_txPlain.mono_l k
  unfold laws_txPlain.f
  repeat' first
      | (with_reducible exact ih0 _ _ _)
      | (with_reducible exact LeO.refl _)
      | (with_reducible exact LeO.none _)
      | (with_reducible refine LeO.ite ?_ ?_)
      | (with_reducible refine LeO.bind ?_ (fun _ => ?_))
      | exact ih0 _ _ _
      | exact LeO.none _
      | refine LeO.ite ?_ ?_
      | refine LeO.bind ?_ (fun _ => ?_)
set_option maxHeartbeats 8000000 in
set_option maxRecDepth 100000 in
theorem laws_txPlain.calls (k : Nat) (A0 : Option Addr) (c0 : Nat) (l0 : List Int) (r : ByteArray) (w : World) (hr0 : Kd.C (Kd.int .u8) w A0 l0.length l0) (hc0 : l0.length ≤ c0) (h : laws_txPlain.f k l0 = some r) :
    Calls Try.prog 8 #[.slice A0 l0.length c0] w fun e w' => e = .returned (.string r) ∧ Below w.heap.size w w' := by
  have HR0 := Aside0.mk hr0
  have HC0 := Aside0.mk hc0
  clear hr0 hc0
  have HB := Aside0.mk (Below.refl w.heap.size w)
  have H : (laws_txPlain.l0 k l0 (⟨#[]⟩ : ByteArray) 0) = some r := h
  clear h
  have H' := Aside0.mk H
  clear H
  go_enter Try.func8, Try.ntmps8
  go_wp2
  go_loopg [3, 4] k (fun kq v3 v4 w' => ∃ (x3_1 : ByteArray) (x4_1 : Int), v3 = .string x3_1 ∧ v4 = .int .i64 x4_1 ∧ Aside0 (laws_txPlain.l0 kq l0 x3_1 x4_1 = some r) ∧ Aside0 (kq ≤ k) ∧ Aside0 (Below w.heap.size w w'))
  case atStart => exact ⟨((⟨#[]⟩ : ByteArray)), (0), (by first | rfl | (simp; done) | (simp [*]; done)), (by first | rfl | (simp; done) | (simp [*]; done)), H', ⟨Nat.le_refl _⟩, ⟨by repeat (first | (with_reducible first | exact HB.out | apply below_alloc | apply pw_below_drewN | apply below_drew1) | exact HB.out)⟩⟩
  case round =>
    clear H'
    obtain ⟨x3_1, x4_1, rfl, rfl, HA, HK1, HB⟩ := hrel
    cases gk with
    | zero => exact absurd HA.out (by simp [laws_txPlain.l0])
    | succ k1 =>
      have H := HA.out
      clear HA
      simp only [laws_txPlain.l0] at H
      by_cases c2 : x4_1 < (l0.length : Int)
      · rw [if_pos c2] at H
        have c2b0 : decide (x4_1 < (l0.length : Int)) = true := decide_eq_true c2
        clear c2
        by_cases c3 : x4_1 < 40
        · rw [if_pos c3] at H
          have c3b0 : decide (x4_1 < 40) = true := decide_eq_true c3
          clear c3
          by_cases c4 : 0 ≤ x4_1
          · rw [if_pos c4] at H
            have c4b0 : decide (0 ≤ x4_1) = true := decide_eq_true c4
            clear c4
            obtain ⟨y102, hy102⟩ : ∃ y_ : List Int, y_ = (([(32 + (Int.tmod (rd l0 x4_1) 95)) % 256] : List Int)) := ⟨_, rfl⟩
            replace H : (if x3_1.size + (strOfNums y102).size ≤ 9223372036854775807 then (laws_txPlain.l0 k1 l0 (x3_1 ++ (strOfNums y102)) (wrap64 (x4_1 + 1))) else (none)) = some r := by first | (rw [hy102]; with_reducible exact H) | (have H2_ := (Option.bind_some _ _).symm.trans H; rw [hy102]; with_reducible exact H2_) | (have H2_ := (Option.bind_some _ _).symm.trans H; with_reducible exact H2_) | with_reducible exact H | (rw [hy102]; exact H) | exact H
            have Ny102 := Aside0.mk hy102
            clear hy102
            by_cases c5 : x3_1.size + (strOfNums y102).size ≤ 9223372036854775807
            · rw [if_pos c5] at H
              have c5b0 := eq_true c5
              have c5b1 : decide (x3_1.size + (strOfNums y102).size ≤ 9223372036854775807) = true := decide_eq_true c5
              try have c5b2 : (9223372036854775807 < x3_1.size + (strOfNums y102).size) = False := eq_false (Nat.not_lt.2 c5)
              have H' := Aside0.mk H
              clear H
              have p101 : 0 ≤ (x4_1 : Int) := of_decide_eq_true (by first | (with_reducible assumption) | assumption)
              have q101 : x4_1 < (l0.length : Int) := of_decide_eq_true (by first | (with_reducible assumption) | assumption)
              obtain ⟨ad101, e101, hx101_0⟩ := Kd.at_int HR0.out x4_1 p101 q101
              cases e101
              replace hx101_0 := (HB.out.cell (World.block_lt_of_cell? w _ hx101_0)).trans hx101_0
              replace p101 := eq_true p101
              replace q101 := eq_true q101
              go_wp2_with (first | ((with_reducible refine gate_dst (N := 22) rfl ?_); refine Kd.R_lit (Kd.int .u8) _ 5 ?hg (N := 22) ?hd (xs := ([(32 + (Int.tmod (rd l0 x4_1) 95)) % 256] : List Int)) (inner := [.int .u8 ((32 + (Int.tmod (rd l0 x4_1) 95)) % 256)]) (ok := fun _ => True) (okp := fun _ => True) ?hr ?hp (fun _ hk => hk) trivial (Below.refl _ _) (Nat.le_refl _) (by simp) ?_; (case hd => rfl); (case hg => rfl); (case hr => first | (go_simp; done) | (go_simp; rfl)); (case hp => exact (Reps.one (show Kd.M (Kd.int .u8) _ _ _ ((32 + (Int.tmod (rd l0 x4_1) 95)) % 256) [.int .u8 ((32 + (Int.tmod (rd l0 x4_1) 95)) % 256)] from rfl) (Reps.none _ _))); intro v103 w6 ho7 hb hg_ hnew_; clear hg_ hnew_; (first | rw [← Ny102.out] at ho7 | (simp only [Int.reduceToNat] at ho7; rw [← Ny102.out] at ho7)); have n0_ := Aside0.mk (Kd.R_lower ho7 (below_size (by repeat (first | (with_reducible first | exact HB.out | apply below_alloc | apply pw_below_drewN | apply below_drew1) | exact HB.out)))); have n1_ := Aside0.mk (below_step (by repeat (first | (with_reducible first | exact HB.out | apply below_alloc | apply pw_below_drewN | apply below_drew1) | exact HB.out)) hb); clear HB; have HO104 := n0_; have HB := n1_; clear n0_ n1_; clear hb ho7; have hcv8 := own_string (P := Try.prog) Try.underlying28 Try.underlying5 Try.underlying9 (Kd.own_of_R HO104.out)))
              go_roundg k1
              case measure => have := HK1.out; omega
              case rel => exact ⟨(x3_1 ++ (strOfNums y102)), (wrap64 (x4_1 + 1)), (by first | rfl | (simp; done) | (simp [*]; done)), (by first | rfl | (simp; done) | (simp [*]; done)), H', ⟨by have := HK1.out; omega⟩, ⟨by repeat (first | (with_reducible first | exact HB.out | apply below_alloc | apply pw_below_drewN | apply below_drew1) | exact HB.out)⟩⟩
            · rw [if_neg c5] at H
              exact absurd H (by simp)
          · rw [if_neg c4] at H
            exact absurd H (by simp)
        · rw [if_neg c3] at H
          have c3b0 : decide (x4_1 < 40) = false := decide_eq_false c3
          clear c3
          obtain rfl := Option.some.inj H
          go_wp2
          go_ret
          exact ⟨by first | rfl | (simp [errW_none, errW_some] <;> rfl) | (simp [*, errW_none, errW_some] <;> rfl), by repeat (first | (with_reducible first | exact HB.out | apply below_alloc | apply pw_below_drewN | apply below_drew1) | exact HB.out)⟩
      · rw [if_neg c2] at H
        have c2b0 : decide (x4_1 < (l0.length : Int)) = false := decide_eq_false c2
        clear c2
        obtain rfl := Option.some.inj H
        go_wp2
        go_ret
        exact ⟨by first | rfl | (simp [errW_none, errW_some] <;> rfl) | (simp [*, errW_none, errW_some] <;> rfl), by repeat (first | (with_reducible first | exact HB.out | apply below_alloc | apply pw_below_drewN | apply below_drew1) | exact HB.out)⟩

/-! ### spec_TXPad: function 10 -/
def spec_TXPad.l0 : Nat → Bool → ByteArray → Int → ByteArray → ByteArray → Option (ByteArray)
  | 0, _, _, _, _, _ => none
  | k + 1, x0, x1, x2, x3, x9 => if (x9.size : Int) < (wrap64 (x2 - (x1.size : Int))) then (if x9.size + x3.size ≤ 9223372036854775807 then (spec_TXPad.l0 k x0 x1 x2 x3 (x9 ++ x3)) else (none)) else (if 0 ≤ (wrap64 (x2 - (x1.size : Int))) then (if (wrap64 (x2 - (x1.size : Int))) ≤ (x9.size : Int) then (if x0 = true then (if (x9.extract 0 ((wrap64 (x2 - (x1.size : Int))) : Int).toNat).size + x1.size ≤ 9223372036854775807 then (some ((x9.extract 0 ((wrap64 (x2 - (x1.size : Int))) : Int).toNat) ++ x1)) else (none)) else (if x1.size + (x9.extract 0 ((wrap64 (x2 - (x1.size : Int))) : Int).toNat).size ≤ 9223372036854775807 then (some (x1 ++ (x9.extract 0 ((wrap64 (x2 - (x1.size : Int))) : Int).toNat))) else (none))) else (none)) else (none))
def spec_TXPad.f (k : Nat) (a0 : Bool) (a1 : ByteArray) (a2 : Int) (a3 : ByteArray) : Option (ByteArray) := if a2 ≤ (a1.size : Int) then (if 0 ≤ a2 then (some (a1.extract 0 (a2 : Int).toNat)) else (none)) else (spec_TXPad.l0 k a0 a1 a2 a3 (⟨#[]⟩ : ByteArray))
theorem spec_TXPad.mono_l : ∀ k, (∀ y0 y1 y2 y3 y4, LeO (spec_TXPad.l0 k y0 y1 y2 y3 y4) (spec_TXPad.l0 (k + 1) y0 y1 y2 y3 y4))
  | 0 => fun _ _ _ _ _ r h => by simp [spec_TXPad.l0] at h
  | k + 1 => by
    have ih0 := spec_TXPad.mono_l k
    · intro y0 y1 y2 y3 y4
      unfold spec_TXPad.l0
      repeat' first
      | (with_reducible exact ih0 _ _ _ _ _)
      | (with_reducible exact LeO.refl _)
      | (with_reducible exact LeO.none _)
      | (with_reducible refine LeO.ite ?_ ?_)
      | (with_reducible refine LeO.bind ?_ (fun _ => ?_))
      | exact ih0 _ _ _ _ _
      | exact LeO.none _
      | refine LeO.ite ?_ ?_
      | refine LeO.bind ?_ (fun _ => ?_)
theorem spec_TXPad.mono : ∀ a0 a1 a2 a3 k, LeO (spec_TXPad.f k a0 a1 a2 a3) (spec_TXPad.f (k + 1) a0 a1 a2 a3) := by
  intro a0 a1 a2 a3 k
  have ih0 := spec_TXPad.mono_l k
  unfold spec_TXPad.f
  repeat' first
      | (with_reducible exact ih0 _ _ _ _ _)
      | (with_reducible exact LeO.refl _)
      | (with_reducible exact LeO.none _)
      | (with_reducible refine LeO.ite ?_ ?_)
      | (with_reducible refine LeO.bind ?_ (fun _ => ?_))
      | exact ih0 _ _ _ _ _
      | exact LeO.none _
      | refine LeO.ite ?_ ?_
      | refine LeO.bind ?_ (fun _ => ?_)
set_option maxHeartbeats 8000000 in
set_option maxRecDepth 100000 in
theorem spec_TXPad.calls (k : Nat) (a0 : Bool) (a1 : ByteArray) (a2 : Int) (a3 : ByteArray) (r : ByteArray) (w : World) (h : spec_TXPad.f k a0 a1 a2 a3 = some r) :
    Calls Try.prog 10 #[.bool a0, .string a1, .int .i64 a2, .string a3] w fun e w' => e = .returned (.string r) ∧ Drawn0 w w' := by
  have H : (if a2 ≤ (a1.size : Int) then (if 0 ≤ a2 then (some (a1.extract 0 (a2 : Int).toNat)) else (none)) else (spec_TXPad.l0 k a0 a1 a2 a3 (⟨#[]⟩ : ByteArray))) = some r := h
  clear h
  by_cases c5 : a2 ≤ (a1.size : Int)
  · rw [if_pos c5] at H
    have c5b0 : decide (a2 ≤ (a1.size : Int)) = true := decide_eq_true c5
    clear c5
    by_cases c6 : 0 ≤ a2
    · rw [if_pos c6] at H
      have c6b0 := eq_true c6
      have c6b1 : decide (0 ≤ a2) = true := decide_eq_true c6
      clear c6
      have c7b0 := eq_true (of_decide_eq_true (by first | (with_reducible assumption) | assumption) : a2 ≤ (a1.size : Int))
      obtain rfl := Option.some.inj H
      go_enter Try.func10, Try.ntmps10
      go_wp2
      go_ret
      exact ⟨by first | rfl | (simp; done) | (simp [*]; done), by repeat (first | exact Drawn0.refl _ | apply Drawn0.step)⟩
    · rw [if_neg c6] at H
      exact absurd H (by simp)
  · rw [if_neg c5] at H
    have c5b0 : decide (a2 ≤ (a1.size : Int)) = false := decide_eq_false c5
    clear c5
    have H' := Aside0.mk H
    clear H
    go_enter Try.func10, Try.ntmps10
    go_wp2
    go_loopg [9] k (fun kq v9 w' => ∃ (x9_1 : ByteArray), v9 = .string x9_1 ∧ Aside0 (spec_TXPad.l0 kq a0 a1 a2 a3 x9_1 = some r) ∧ Aside0 (kq ≤ k) ∧ Drawn0 w w')
    case atStart => exact ⟨((⟨#[]⟩ : ByteArray)), (by first | rfl | (simp; done) | (simp [*]; done)), H', ⟨Nat.le_refl _⟩, by repeat (first | exact Drawn0.refl _ | apply Drawn0.step)⟩
    case round =>
      clear H'
      try clear c1
      try clear p2
      try clear c5
      try clear c5b0
      try clear c6
      try clear c6b0
      try clear c6b1
      try clear c7
      try clear c7b0
      obtain ⟨x9_1, rfl, HA, HK1, ⟨m1, rfl⟩⟩ := hrel
      cases gk with
      | zero => exact absurd HA.out (by simp [spec_TXPad.l0])
      | succ k1 =>
        have H := HA.out
        clear HA
        simp only [spec_TXPad.l0] at H
        by_cases c8 : (x9_1.size : Int) < (wrap64 (a2 - (a1.size : Int)))
        · rw [if_pos c8] at H
          have c8b0 : decide ((x9_1.size : Int) < (wrap64 (a2 - (a1.size : Int)))) = true := decide_eq_true c8
          clear c8
          by_cases c9 : x9_1.size + a3.size ≤ 9223372036854775807
          · rw [if_pos c9] at H
            have c9b0 := eq_true c9
            have c9b1 : decide (x9_1.size + a3.size ≤ 9223372036854775807) = true := decide_eq_true c9
            try have c9b2 : (9223372036854775807 < x9_1.size + a3.size) = False := eq_false (Nat.not_lt.2 c9)
            have H' := Aside0.mk H
            clear H
            go_wp2
            go_roundg k1
            case measure => have := HK1.out; omega
            case rel => exact ⟨(x9_1 ++ a3), (by first | rfl | (simp; done) | (simp [*]; done)), H', ⟨by have := HK1.out; omega⟩, by repeat (first | exact Drawn0.refl _ | apply Drawn0.step)⟩
          · rw [if_neg c9] at H
            exact absurd H (by simp)
        · rw [if_neg c8] at H
          have c8b0 : decide ((x9_1.size : Int) < (wrap64 (a2 - (a1.size : Int)))) = false := decide_eq_false c8
          clear c8
          obtain ⟨ji10, hji10⟩ : ∃ j_ : Int, (wrap64 (a2 - (a1.size : Int))) = j_ := ⟨_, rfl⟩
          replace H : (if 0 ≤ (ji10) then (if (ji10) ≤ (x9_1.size : Int) then (if a0 = true then (if (x9_1.extract 0 ((ji10) : Int).toNat).size + a1.size ≤ 9223372036854775807 then (some ((x9_1.extract 0 ((ji10) : Int).toNat) ++ a1)) else (none)) else (if a1.size + (x9_1.extract 0 ((ji10) : Int).toNat).size ≤ 9223372036854775807 then (some (a1 ++ (x9_1.extract 0 ((ji10) : Int).toNat))) else (none))) else (none)) else (none)) = some r := by first | (rw [hji10] at H; exact H) | (simp only [hji10] at H ⊢; exact H)
          (try rw [hji10] at c8b0)
          have hji10w : (IntKind.i64.wrap (a2 - (a1.size : Int))) = ji10 := (i64_w _).trans hji10
          by_cases c11 : 0 ≤ (ji10)
          · rw [if_pos c11] at H
            have c11b0 := eq_true c11
            have c11b1 : decide (0 ≤ (ji10)) = true := decide_eq_true c11
            clear c11
            by_cases c12 : (ji10) ≤ (x9_1.size : Int)
            · rw [if_pos c12] at H
              have c12b0 := eq_true c12
              have c12b1 : decide ((ji10) ≤ (x9_1.size : Int)) = true := decide_eq_true c12
              clear c12
              by_cases c13 : a0 = true
              · subst c13
                have H1 : (if (x9_1.extract 0 ((ji10) : Int).toNat).size + a1.size ≤ 9223372036854775807 then (some ((x9_1.extract 0 ((ji10) : Int).toNat) ++ a1)) else (none)) = some r := by rw [if_pos rfl] at H; exact H
                clear H
                have H := H1
                clear H1
                by_cases c14 : (x9_1.extract 0 ((ji10) : Int).toNat).size + a1.size ≤ 9223372036854775807
                · rw [if_pos c14] at H
                  have c14b0 := eq_true c14
                  have c14b1 : decide ((x9_1.extract 0 ((ji10) : Int).toNat).size + a1.size ≤ 9223372036854775807) = true := decide_eq_true c14
                  try have c14b2 : (9223372036854775807 < (x9_1.extract 0 ((ji10) : Int).toNat).size + a1.size) = False := eq_false (Nat.not_lt.2 c14)
                  obtain rfl := Option.some.inj H
                  go_wp2
                  go_ret
                  exact ⟨by first | rfl | (simp; done) | (simp only [← hji10] <;> (first | rfl | simp)) | (simp [*]; done), by repeat (first | exact Drawn0.refl _ | apply Drawn0.step)⟩
                · rw [if_neg c14] at H
                  exact absurd H (by simp)
              · replace c13 := Bool.eq_false_iff.mpr c13
                subst c13
                have H1 : (if a1.size + (x9_1.extract 0 ((ji10) : Int).toNat).size ≤ 9223372036854775807 then (some (a1 ++ (x9_1.extract 0 ((ji10) : Int).toNat))) else (none)) = some r := by rw [if_neg (show ¬ (false = true) by decide)] at H; exact H
                clear H
                have H := H1
                clear H1
                by_cases c15 : a1.size + (x9_1.extract 0 ((ji10) : Int).toNat).size ≤ 9223372036854775807
                · rw [if_pos c15] at H
                  have c15b0 := eq_true c15
                  have c15b1 : decide (a1.size + (x9_1.extract 0 ((ji10) : Int).toNat).size ≤ 9223372036854775807) = true := decide_eq_true c15
                  try have c15b2 : (9223372036854775807 < a1.size + (x9_1.extract 0 ((ji10) : Int).toNat).size) = False := eq_false (Nat.not_lt.2 c15)
                  obtain rfl := Option.some.inj H
                  go_wp2
                  go_ret
                  exact ⟨by first | rfl | (simp; done) | (simp only [← hji10] <;> (first | rfl | simp)) | (simp [*]; done), by repeat (first | exact Drawn0.refl _ | apply Drawn0.step)⟩
                · rw [if_neg c15] at H
                  exact absurd H (by simp)
            · rw [if_neg c12] at H
              exact absurd H (by simp)
          · rw [if_neg c11] at H
            exact absurd H (by simp)

/-! ### laws_FnTXPad: function 5 -/
def laws_FnTXPad.j0 : Nat → Bool → List Int → List Int → Int → Bool → Option (Bool)
  | 0, _, _, _, _, _ => none
  | k + 1, x0, x1, x2, x3, x20 => if x20 = true then (some true) else ((laws_txPlain.f k x1).bind fun t105 => ((laws_txPlain.f k x2).bind fun t106 => (if t106.toList = ([] : List UInt8) then (some true) else ((impl_TXPad.f x0 t105 (Int.tmod (wrap64 (x3)) 100) t106).bind fun bt107 => (if bt107.2 = true then ((spec_TXPad.f k x0 t105 (Int.tmod (wrap64 (x3)) 100) t106).bind fun t109 => (some (bt107.1.toList == t109.toList))) else (some false))))))
def laws_FnTXPad.f (k : Nat) (a0 : Bool) (l1 : List Int) (l2 : List Int) (a3 : Int) : Option (Bool) := if (l1.length : Int) > 2147483647 then (laws_FnTXPad.j0 k a0 l1 l2 a3 true) else (laws_FnTXPad.j0 k a0 l1 l2 a3 (decide ((l2.length : Int) > 2147483647)))
theorem laws_FnTXPad.mono_l : ∀ k, (∀ y0 y1 y2 y3 y4, LeO (laws_FnTXPad.j0 k y0 y1 y2 y3 y4) (laws_FnTXPad.j0 (k + 1) y0 y1 y2 y3 y4))
  | 0 => fun _ _ _ _ _ r h => by simp [laws_FnTXPad.j0] at h
  | k + 1 => by
    have ih0 := laws_FnTXPad.mono_l k
    · intro y0 y1 y2 y3 y4
      unfold laws_FnTXPad.j0
      repeat' first
      | (with_reducible exact ih0 _ _ _ _ _)
      | (with_reducible exact laws_txPlain.mono _ _)
      | (with_reducible exact spec_TXPad.mono _ _ _ _ _)
      | (with_reducible exact LeO.refl _)
      | (with_reducible exact LeO.none _)
      | (with_reducible refine LeO.ite ?_ ?_)
      | (with_reducible refine LeO.bind ?_ (fun _ => ?_))
      | exact ih0 _ _ _ _ _
      | exact laws_txPlain.mono _ _
      | exact spec_TXPad.mono _ _ _ _ _
      | exact LeO.none _
      | refine LeO.ite ?_ ?_
      | refine LeO.bind ?_ (fun _ => ?_)
theorem laws_FnTXPad.mono : ∀ a0 a1 a2 a3 k, LeO (laws_FnTXPad.f k a0 a1 a2 a3) (laws_FnTXPad.f (k + 1) a0 a1 a2 a3) := by
  intro a0 a1 a2 a3 k
  have ih0 := laws_FnTXPad.mono_l k
  unfold laws_FnTXPad.f
  repeat' first
      | (with_reducible exact ih0 _ _ _ _ _)
      | (with_reducible exact laws_txPlain.mono _ _)
      | (with_reducible exact spec_TXPad.mono _ _ _ _ _)
      | (with_reducible exact LeO.refl _)
      | (with_reducible exact LeO.none _)
      | (with_reducible refine LeO.ite ?_ ?_)
      | (with_reducible refine LeO.bind ?_ (fun _ => ?_))
      | exact ih0 _ _ _ _ _
      | exact laws_txPlain.mono _ _
      | exact spec_TXPad.mono _ _ _ _ _
      | exact LeO.none _
      | refine LeO.ite ?_ ?_
      | refine LeO.bind ?_ (fun _ => ?_)
set_option maxHeartbeats 8000000 in
set_option maxRecDepth 100000 in
theorem laws_FnTXPad.calls (k : Nat) (a0 : Bool) (A1 : Option Addr) (c1 : Nat) (l1 : List Int) (A2 : Option Addr) (c2 : Nat) (l2 : List Int) (a3 : Int) (r : Bool) (w : World) (hr1 : Kd.C (Kd.int .u8) w A1 l1.length l1) (hc1 : l1.length ≤ c1) (hr2 : Kd.C (Kd.int .u8) w A2 l2.length l2) (hc2 : l2.length ≤ c2) (h : laws_FnTXPad.f k a0 l1 l2 a3 = some r) :
    Calls Try.prog 5 #[.bool a0, .slice A1 l1.length c1, .slice A2 l2.length c2, .int .u8 a3] w fun e w' => e = .returned (.bool r) ∧ Below w.heap.size w w' := by
  have HR1 := Aside0.mk hr1
  have HC1 := Aside0.mk hc1
  clear hr1 hc1
  have HR2 := Aside0.mk hr2
  have HC2 := Aside0.mk hc2
  clear hr2 hc2
  have HB := Aside0.mk (Below.refl w.heap.size w)
  have H : (if (l1.length : Int) > 2147483647 then (laws_FnTXPad.j0 k a0 l1 l2 a3 true) else (laws_FnTXPad.j0 k a0 l1 l2 a3 (decide ((l2.length : Int) > 2147483647)))) = some r := h
  clear h
  have HC5 := Aside0.mk H
  clear H
  go_enter Try.func5, Try.ntmps5
  go_upto_region 1 with (fail)
  go_cut [20] (fun v20 wc => ∃ (kq : Nat) (x20_4 : Bool), v20 = .bool x20_4 ∧ Aside0 (laws_FnTXPad.j0 kq a0 l1 l2 a3 x20_4 = some r) ∧ Aside0 (kq ≤ k) ∧ Aside0 (Below w.heap.size w wc))
  case first =>
    have H := HC5.out
    clear HC5
    by_cases c6 : (l1.length : Int) > 2147483647
    · rw [if_pos c6] at H
      have c6b0 : decide (2147483647 < (l1.length : Int)) = true := decide_eq_true c6
      have c6b1 : decide (2147483647 < l1.length) = true := decide_eq_true (by omega)
      clear c6
      (first | rw [c6b0] | (simp only [i64_w, i32_w]; rw [c6b0]) | skip)
      have H' := Aside0.mk H
      clear H
      go_wp2
      go_meet
      case rel => exact ⟨_, (true), (by first | rfl | (simp; done) | (simp [*]; done)), H', ⟨by first | omega | exact Nat.le_refl _⟩, ⟨by repeat (first | (with_reducible first | exact HB.out | apply below_alloc | apply pw_below_drewN | apply below_drew1) | exact HB.out)⟩⟩
    · rw [if_neg c6] at H
      have c6b0 : decide (2147483647 < (l1.length : Int)) = false := decide_eq_false c6
      have c6b1 : decide (2147483647 < l1.length) = false := decide_eq_false (by omega)
      clear c6
      (first | rw [c6b0] | (simp only [i64_w, i32_w]; rw [c6b0]) | skip)
      have H' := Aside0.mk H
      clear H
      go_wp2
      go_meet
      case rel => exact ⟨_, (decide ((l2.length : Int) > 2147483647)), (by first | rfl | (simp; done) | (simp [*]; done)), H', ⟨by first | omega | exact Nat.le_refl _⟩, ⟨by repeat (first | (with_reducible first | exact HB.out | apply below_alloc | apply pw_below_drewN | apply below_drew1) | exact HB.out)⟩⟩
  case rest =>
    clear HC5
    try clear c1
    try clear c2
    try clear p2
    try clear c5
    try clear c6
    try clear c6b0
    try clear c6b1
    obtain ⟨kq, x20_4, rfl, HA, HJ4, HB⟩ := hcut
    cases kq with
    | zero => exact absurd HA.out (by simp [laws_FnTXPad.j0])
    | succ kj4 =>
      have H := HA.out
      clear HA
      simp only [laws_FnTXPad.j0] at H
      by_cases c7 : x20_4 = true
      · subst c7
        have H1 : (some true) = some r := by rw [if_pos rfl] at H; exact H
        clear H
        have H := H1
        clear H1
        obtain rfl := Option.some.inj H
        go_wp2
        go_ret
        exact ⟨by first | rfl | (simp [errW_none, errW_some] <;> rfl) | (simp [*, errW_none, errW_some] <;> rfl), by repeat (first | (with_reducible first | exact HB.out | apply below_alloc | apply pw_below_drewN | apply below_drew1) | exact HB.out)⟩
      · replace c7 := Bool.eq_false_iff.mpr c7
        subst c7
        have H1 : ((laws_txPlain.f kj4 l1).bind fun t105 => ((laws_txPlain.f kj4 l2).bind fun t106 => (if t106.toList = ([] : List UInt8) then (some true) else ((impl_TXPad.f a0 t105 (Int.tmod (wrap64 (a3)) 100) t106).bind fun bt107 => (if bt107.2 = true then ((spec_TXPad.f kj4 a0 t105 (Int.tmod (wrap64 (a3)) 100) t106).bind fun t109 => (some (bt107.1.toList == t109.toList))) else (some false)))))) = some r := by rw [if_neg (show ¬ (false = true) by decide)] at H; exact H
        clear H
        have H := H1
        clear H1
        replace H := Option.bind_eq_some_iff.mp H
        obtain ⟨t105, A80, H⟩ := H
        replace H : ((laws_txPlain.f kj4 l2).bind fun t106 => (if t106.toList = ([] : List UInt8) then (some true) else ((impl_TXPad.f a0 t105 (Int.tmod (wrap64 (a3)) 100) t106).bind fun bt107 => (if bt107.2 = true then ((spec_TXPad.f kj4 a0 t105 (Int.tmod (wrap64 (a3)) 100) t106).bind fun t109 => (some (bt107.1.toList == t109.toList))) else (some false))))) = some r := H
        have A8 := Aside0.mk A80
        clear A80
        replace H := Option.bind_eq_some_iff.mp H
        obtain ⟨t106, A90, H⟩ := H
        replace H : (if t106.toList = ([] : List UInt8) then (some true) else ((impl_TXPad.f a0 t105 (Int.tmod (wrap64 (a3)) 100) t106).bind fun bt107 => (if bt107.2 = true then ((spec_TXPad.f kj4 a0 t105 (Int.tmod (wrap64 (a3)) 100) t106).bind fun t109 => (some (bt107.1.toList == t109.toList))) else (some false)))) = some r := H
        have A9 := Aside0.mk A90
        clear A90
        by_cases c10 : t106.toList = ([] : List UInt8)
        · rw [if_pos c10] at H
          have c10b0 : (t106.toList == ([] : List UInt8)) = true := beq_iff_eq.mpr c10
          have c10b1 : (t106.toList != ([] : List UInt8)) = false := bne_eq_false_iff_eq.mpr c10
          clear c10
          obtain rfl := Option.some.inj H
          go_wp2_with (first | ((with_reducible refine gate_callee (f := 8) rfl ?_); refine goesL_ (some 22) rfl rfl Try.func8 (by kernel_rfl) rfl #[.slice A1 l1.length c1] rfl (by (try simp only [List.map_toArray, List.map_cons, List.map_nil]); first | done | rfl | (simp only [List.length_drop, List.length_take]; rfl)) ?_; (with_reducible refine (laws_txPlain.calls kj4 _ _ l1 t105 _ ?side1 ?side2 A8.out).mono ?_); (case side1 => repeat (first | exact (Kd.C_below HR1.out HB.out) | (with_reducible refine Kd.C_alloc ?_ _) | (with_reducible refine Kd.C_drewN ?_ _) | (with_reducible refine Kd.C_drew ?_))); (case side2 => exact HC1.out); rintro e w11 ⟨rfl, hb⟩; refine ⟨_, rfl, ?_⟩; have n0_ := Aside0.mk (below_step (by repeat (first | (with_reducible first | exact HB.out | apply below_alloc | apply pw_below_drewN | apply below_drew1) | exact HB.out)) hb); clear HB; have HB := n0_; clear n0_; (try clear hb); (try clear hb2); (try clear hk); (try clear hi)) | ((with_reducible refine gate_callee (f := 8) rfl ?_); refine goesL_ (some 24) rfl rfl Try.func8 (by kernel_rfl) rfl #[.slice A2 l2.length c2] rfl (by (try simp only [List.map_toArray, List.map_cons, List.map_nil]); first | done | rfl | (simp only [List.length_drop, List.length_take]; rfl)) ?_; (with_reducible refine (laws_txPlain.calls kj4 _ _ l2 t106 _ ?side1 ?side2 A9.out).mono ?_); (case side1 => repeat (first | exact (Kd.C_below HR2.out HB.out) | (with_reducible refine Kd.C_alloc ?_ _) | (with_reducible refine Kd.C_drewN ?_ _) | (with_reducible refine Kd.C_drew ?_))); (case side2 => exact HC2.out); rintro e w12 ⟨rfl, hb⟩; refine ⟨_, rfl, ?_⟩; have n0_ := Aside0.mk (below_step (by repeat (first | (with_reducible first | exact HB.out | apply below_alloc | apply pw_below_drewN | apply below_drew1) | exact HB.out)) hb); clear HB; have HB := n0_; clear n0_; (try clear hb); (try clear hb2); (try clear hk); (try clear hi)))
          go_ret
          exact ⟨by first | rfl | (simp [errW_none, errW_some] <;> rfl) | (simp [*, errW_none, errW_some] <;> rfl), by repeat (first | (with_reducible first | exact HB.out | apply below_alloc | apply pw_below_drewN | apply below_drew1) | exact HB.out)⟩
        · rw [if_neg c10] at H
          have c10b0 : (t106.toList == ([] : List UInt8)) = false := beq_eq_false_iff_ne.mpr c10
          have c10b1 : (t106.toList != ([] : List UInt8)) = true := bne_iff_ne.mpr c10
          replace H := Option.bind_eq_some_iff.mp H
          obtain ⟨⟨t107, t108⟩, A130, H⟩ := H
          replace H : (if t108 = true then ((spec_TXPad.f kj4 a0 t105 (Int.tmod (wrap64 (a3)) 100) t106).bind fun t109 => (some (t107.toList == t109.toList))) else (some false)) = some r := H
          have A13 := Aside0.mk A130
          clear A130
          by_cases c14 : t108 = true
          · subst c14
            have H1 : ((spec_TXPad.f kj4 a0 t105 (Int.tmod (wrap64 (a3)) 100) t106).bind fun t109 => (some (t107.toList == t109.toList))) = some r := by rw [if_pos rfl] at H; exact H
            clear H
            have H := H1
            clear H1
            replace H := Option.bind_eq_some_iff.mp H
            obtain ⟨t109, A150, H⟩ := H
            replace H : (some (t107.toList == t109.toList)) = some r := H
            have A15 := Aside0.mk A150
            clear A150
            obtain rfl := Option.some.inj H
            go_wp2_with (first | ((with_reducible refine gate_callee (f := 8) rfl ?_); refine goesL_ (some 22) rfl rfl Try.func8 (by kernel_rfl) rfl #[.slice A1 l1.length c1] rfl (by (try simp only [List.map_toArray, List.map_cons, List.map_nil]); first | done | rfl | (simp only [List.length_drop, List.length_take]; rfl)) ?_; (with_reducible refine (laws_txPlain.calls kj4 _ _ l1 t105 _ ?side1 ?side2 A8.out).mono ?_); (case side1 => repeat (first | exact (Kd.C_below HR1.out HB.out) | (with_reducible refine Kd.C_alloc ?_ _) | (with_reducible refine Kd.C_drewN ?_ _) | (with_reducible refine Kd.C_drew ?_))); (case side2 => exact HC1.out); rintro e w16 ⟨rfl, hb⟩; refine ⟨_, rfl, ?_⟩; have n0_ := Aside0.mk (below_step (by repeat (first | (with_reducible first | exact HB.out | apply below_alloc | apply pw_below_drewN | apply below_drew1) | exact HB.out)) hb); clear HB; have HB := n0_; clear n0_; (try clear hb); (try clear hb2); (try clear hk); (try clear hi)) | ((with_reducible refine gate_callee (f := 8) rfl ?_); refine goesL_ (some 24) rfl rfl Try.func8 (by kernel_rfl) rfl #[.slice A2 l2.length c2] rfl (by (try simp only [List.map_toArray, List.map_cons, List.map_nil]); first | done | rfl | (simp only [List.length_drop, List.length_take]; rfl)) ?_; (with_reducible refine (laws_txPlain.calls kj4 _ _ l2 t106 _ ?side1 ?side2 A9.out).mono ?_); (case side1 => repeat (first | exact (Kd.C_below HR2.out HB.out) | (with_reducible refine Kd.C_alloc ?_ _) | (with_reducible refine Kd.C_drewN ?_ _) | (with_reducible refine Kd.C_drew ?_))); (case side2 => exact HC2.out); rintro e w17 ⟨rfl, hb⟩; refine ⟨_, rfl, ?_⟩; have n0_ := Aside0.mk (below_step (by repeat (first | (with_reducible first | exact HB.out | apply below_alloc | apply pw_below_drewN | apply below_drew1) | exact HB.out)) hb); clear HB; have HB := n0_; clear n0_; (try clear hb); (try clear hb2); (try clear hk); (try clear hi)) | ((with_reducible refine gate_callee (f := 9) rfl ?_); refine goesL_ (some 34) rfl rfl Try.func9 (by kernel_rfl) rfl #[.bool a0, .string t105, .int .i64 (Int.tmod (wrap64 (a3)) 100), .string t106] rfl (by (try simp only [List.map_toArray, List.map_cons, List.map_nil]); first | done | rfl | (simp only [List.length_drop, List.length_take]; rfl)) ?_; (with_reducible refine (impl_TXPad.calls a0 t105 (Int.tmod (wrap64 (a3)) 100) t106 t107 true _ A13.out).mono ?_); rintro e w18 ⟨rfl, hb⟩; refine ⟨_, rfl, ?_⟩; have n0_ := Aside0.mk (below_step (by repeat (first | (with_reducible first | exact HB.out | apply below_alloc | apply pw_below_drewN | apply below_drew1) | exact HB.out)) hb); clear HB; have HB := n0_; clear n0_; (try clear hb); (try clear hb2); (try clear hk); (try clear hi)) | (go_at_call 10; (with_reducible refine (spec_TXPad.calls kj4 a0 t105 (Int.tmod (wrap64 (a3)) 100) t106 t109 _ A15.out).mono ?_); rintro e w' ⟨rfl, ⟨nd, rfl⟩⟩))
            go_ret
            exact ⟨by first | rfl | (simp [errW_none, errW_some] <;> rfl) | (simp [*, errW_none, errW_some] <;> rfl), by repeat (first | (with_reducible first | exact HB.out | apply below_alloc | apply pw_below_drewN | apply below_drew1) | exact HB.out)⟩
          · replace c14 := Bool.eq_false_iff.mpr c14
            subst c14
            have H1 : (some false) = some r := by rw [if_neg (show ¬ (false = true) by decide)] at H; exact H
            clear H
            have H := H1
            clear H1
            obtain rfl := Option.some.inj H
            go_wp2_with (first | ((with_reducible refine gate_callee (f := 8) rfl ?_); refine goesL_ (some 22) rfl rfl Try.func8 (by kernel_rfl) rfl #[.slice A1 l1.length c1] rfl (by (try simp only [List.map_toArray, List.map_cons, List.map_nil]); first | done | rfl | (simp only [List.length_drop, List.length_take]; rfl)) ?_; (with_reducible refine (laws_txPlain.calls kj4 _ _ l1 t105 _ ?side1 ?side2 A8.out).mono ?_); (case side1 => repeat (first | exact (Kd.C_below HR1.out HB.out) | (with_reducible refine Kd.C_alloc ?_ _) | (with_reducible refine Kd.C_drewN ?_ _) | (with_reducible refine Kd.C_drew ?_))); (case side2 => exact HC1.out); rintro e w19 ⟨rfl, hb⟩; refine ⟨_, rfl, ?_⟩; have n0_ := Aside0.mk (below_step (by repeat (first | (with_reducible first | exact HB.out | apply below_alloc | apply pw_below_drewN | apply below_drew1) | exact HB.out)) hb); clear HB; have HB := n0_; clear n0_; (try clear hb); (try clear hb2); (try clear hk); (try clear hi)) | ((with_reducible refine gate_callee (f := 8) rfl ?_); refine goesL_ (some 24) rfl rfl Try.func8 (by kernel_rfl) rfl #[.slice A2 l2.length c2] rfl (by (try simp only [List.map_toArray, List.map_cons, List.map_nil]); first | done | rfl | (simp only [List.length_drop, List.length_take]; rfl)) ?_; (with_reducible refine (laws_txPlain.calls kj4 _ _ l2 t106 _ ?side1 ?side2 A9.out).mono ?_); (case side1 => repeat (first | exact (Kd.C_below HR2.out HB.out) | (with_reducible refine Kd.C_alloc ?_ _) | (with_reducible refine Kd.C_drewN ?_ _) | (with_reducible refine Kd.C_drew ?_))); (case side2 => exact HC2.out); rintro e w20 ⟨rfl, hb⟩; refine ⟨_, rfl, ?_⟩; have n0_ := Aside0.mk (below_step (by repeat (first | (with_reducible first | exact HB.out | apply below_alloc | apply pw_below_drewN | apply below_drew1) | exact HB.out)) hb); clear HB; have HB := n0_; clear n0_; (try clear hb); (try clear hb2); (try clear hk); (try clear hi)) | ((with_reducible refine gate_callee (f := 9) rfl ?_); refine goesL_ (some 34) rfl rfl Try.func9 (by kernel_rfl) rfl #[.bool a0, .string t105, .int .i64 (Int.tmod (wrap64 (a3)) 100), .string t106] rfl (by (try simp only [List.map_toArray, List.map_cons, List.map_nil]); first | done | rfl | (simp only [List.length_drop, List.length_take]; rfl)) ?_; (with_reducible refine (impl_TXPad.calls a0 t105 (Int.tmod (wrap64 (a3)) 100) t106 t107 false _ A13.out).mono ?_); rintro e w21 ⟨rfl, hb⟩; refine ⟨_, rfl, ?_⟩; have n0_ := Aside0.mk (below_step (by repeat (first | (with_reducible first | exact HB.out | apply below_alloc | apply pw_below_drewN | apply below_drew1) | exact HB.out)) hb); clear HB; have HB := n0_; clear n0_; (try clear hb); (try clear hb2); (try clear hk); (try clear hi)))
            go_ret
            exact ⟨by first | rfl | (simp [errW_none, errW_some] <;> rfl) | (simp [*, errW_none, errW_some] <;> rfl), by repeat (first | (with_reducible first | exact HB.out | apply below_alloc | apply pw_below_drewN | apply below_drew1) | exact HB.out)⟩

/-- THE ONE PURE STATEMENT of laws_FnTXPad: yours. -/
def laws_FnTXPad.Pure : Prop := ∀ (a0 : Bool) (l1 : List Int) (l2 : List Int) (a3 : Int), l1.length ≤ maxLen → l1.length * 1 ≤ 140737488351232 → (∀ x ∈ l1, (Lit.int .u8 x).wf = true) → l2.length ≤ maxLen → l2.length * 1 ≤ 140737488351232 → (∀ x ∈ l2, (Lit.int .u8 x).wf = true) → (Lit.int .u8 a3).wf = true → ∃ k, laws_FnTXPad.f k a0 l1 l2 a3 = some true
theorem laws_FnTXPad.walk (P : laws_FnTXPad.Pure) (a0 : Bool) (a1 : Option Addr) (len1 cap1 : Nat) (z1 : List Int) (a2 : Option Addr) (len2 cap2 : Nat) (z2 : List Int) (a3 : Int) (w : World) (w1 : (a1 = none ∧ len1 = 0 ∧ cap1 = 0 ∧ z1 = []) ∨ ∃ x, a1 = some x ∧ len1 ≤ cap1 ∧ cap1 ≤ maxLen ∧ z1.length = cap1 ∧ (∀ i, i < z1.length → w.cell? (x.add i) = some (.int .u8 (z1.getD i 0))) ∧ ∀ n ∈ z1, (Lit.int .u8 n).wf = true) (y1 : len1 * 1 ≤ 140737488351232) (w2 : (a2 = none ∧ len2 = 0 ∧ cap2 = 0 ∧ z2 = []) ∨ ∃ x, a2 = some x ∧ len2 ≤ cap2 ∧ cap2 ≤ maxLen ∧ z2.length = cap2 ∧ (∀ i, i < z2.length → w.cell? (x.add i) = some (.int .u8 (z2.getD i 0))) ∧ ∀ n ∈ z2, (Lit.int .u8 n).wf = true) (y2 : len2 * 1 ≤ 140737488351232) (w3 : (Lit.int .u8 a3).wf = true) :
    Calls Try.prog 5 #[.bool a0, .slice a1 len1 cap1, .slice a2 len2 cap2, .int .u8 a3] w fun e w' => e = .returned (.bool true) ∧ Below w.heap.size w w' := by
  obtain ⟨l1, rfl, hr1, hm1, hw1, hc1⟩ := ReadsInt.ofRowC w1
  obtain ⟨l2, rfl, hr2, hm2, hw2, hc2⟩ := ReadsInt.ofRowC w2
  obtain ⟨k, h⟩ := P a0 l1 l2 a3 hm1 y1 hw1 hm2 y2 hw2 w3
  refine (laws_FnTXPad.calls k a0 _ _ l1 _ _ l2 a3 true w (Kd.C_of_reads (d := (0 : Int)) (h1 := fun _ => rfl) hr1) hc1 (Kd.C_of_reads (d := (0 : Int)) (h1 := fun _ => rfl) hr2) hc2 h).mono ?_
  rintro e w' ⟨rfl, hd⟩
  exact ⟨rfl, hd⟩

end Go.Proofs.Ythicaehcoingeaa.PTX
