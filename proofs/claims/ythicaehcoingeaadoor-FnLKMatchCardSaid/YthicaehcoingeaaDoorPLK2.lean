-- written by gprint.py, a program of this claim's own, by means of the kit's print
import Derived.Test.YthicaehcoingeaaDoorPLK0
import Derived.Test.YthicaehcoingeaaDoorPLK1
namespace Go.Proofs.YthicaehcoingeaaDoor.PLK
open Go.RowKit Go.Proofs.YthicaehcoingeaaDoorW.PrintWords Go.Proofs.YthicaehcoingeaaDoorW.PrintLast Go.Proofs.YthicaehcoingeaaDoorW.PrintMore
attribute [local go_sem] max2_int min2_int max_two min_two max_three min_three max_four min_four   -- for this text's walks alone
set_option linter.unusedVariables false
set_option linter.unusedSimpArgs false

/-! ### spec_LKMatch: function 13 -/
mutual
def spec_LKMatch.j1 : Nat → Bool → List Int → Int → List Int → Option (Bool × Bool)
  | 0, _, _, _, _ => none
  | k + 1, x0, x1, x2, x3 => if (x3.length : Int) = 0 then (spec_LKMatch.j2 k x0 x1 x2 x3 true) else (if 0 < (x1.length : Int) then ((spec_lkFold.f x0 (rd x1 0)).bind fun t141 => (if 0 < (x3.length : Int) then ((spec_lkFold.f x0 (rd x3 0)).bind fun t143 => (spec_LKMatch.j2 k x0 x1 x2 x3 (t141 != t143))) else (none))) else (none))
def spec_LKMatch.j2 : Nat → Bool → List Int → Int → List Int → Bool → Option (Bool × Bool)
  | 0, _, _, _, _, _ => none
  | k + 1, x0, x1, x2, x3, x99 => if x99 = true then (if 1 ≤ (x1.length : Int) then ((spec_LKMatch.f k x0 (x1.drop 1) x2 ([] : List Int)).bind fun bt149 => (some (false, bt149.2))) else (none)) else (if 1 ≤ (x1.length : Int) then (if 1 ≤ (x3.length : Int) then ((spec_LKMatch.f k x0 (x1.drop 1) x2 (x3.drop 1)).bind fun bt157 => (some (bt157.1, bt157.2))) else (none)) else (none))
def spec_LKMatch.l0 : Nat → Bool → List Int → Int → List Int → Int → Option (Bool × Bool)
  | 0, _, _, _, _, _ => none
  | k + 1, x0, x1, x2, x3, x10 => if x10 ≤ (x3.length : Int) then (if 1 ≤ (x1.length : Int) then (if 0 ≤ x10 then ((spec_LKMatch.f k x0 (x1.drop 1) x2 (x3.drop (x10 : Int).toNat)).bind fun bt122 => (if bt122.1 = true then (some (bt122.1, bt122.2)) else (if bt122.2 = true then (spec_LKMatch.l0 k x0 x1 x2 x3 (wrap64 (x10 + 1))) else (some (bt122.1, bt122.2))))) else (none)) else (none)) else (some (false, true))
def spec_LKMatch.f : Nat → Bool → List Int → Int → List Int → Option (Bool × Bool)
  | 0, _, _, _, _ => none
  | k + 1, a0, l1, a2, l3 => if (l1.length : Int) = 0 then (some (((l3.length : Int) == 0), true)) else (if 0 < (l1.length : Int) then (if (rd l1 0) = a2 then (if (l1.length : Int) = 1 then (some (false, false)) else (if 1 ≤ (l1.length : Int) then (spec_LKMatch.j1 k a0 (l1.drop 1) a2 l3) else (none))) else (if (rd l1 0) = 37 then (spec_LKMatch.l0 k a0 l1 a2 l3 0) else (if (rd l1 0) = 95 then (if (l3.length : Int) = 0 then (if 1 ≤ (l1.length : Int) then ((spec_LKMatch.f k a0 (l1.drop 1) a2 l3).bind fun bt130 => (some (false, bt130.2))) else (none)) else (if 1 ≤ (l1.length : Int) then (if 1 ≤ (l3.length : Int) then ((spec_LKMatch.f k a0 (l1.drop 1) a2 (l3.drop 1)).bind fun bt138 => (some (bt138.1, bt138.2))) else (none)) else (none))) else (spec_LKMatch.j1 k a0 l1 a2 l3)))) else (none))
end
theorem spec_LKMatch.mono_l : ∀ k, (∀ y0 y1 y2 y3, LeO (spec_LKMatch.f k y0 y1 y2 y3) (spec_LKMatch.f (k + 1) y0 y1 y2 y3)) ∧ (∀ y0 y1 y2 y3, LeO (spec_LKMatch.j1 k y0 y1 y2 y3) (spec_LKMatch.j1 (k + 1) y0 y1 y2 y3)) ∧ (∀ y0 y1 y2 y3 y4, LeO (spec_LKMatch.j2 k y0 y1 y2 y3 y4) (spec_LKMatch.j2 (k + 1) y0 y1 y2 y3 y4)) ∧ (∀ y0 y1 y2 y3 y4, LeO (spec_LKMatch.l0 k y0 y1 y2 y3 y4) (spec_LKMatch.l0 (k + 1) y0 y1 y2 y3 y4))
  | 0 => ⟨fun _ _ _ _ r h => by simp [spec_LKMatch.f] at h, fun _ _ _ _ r h => by simp [spec_LKMatch.j1] at h, fun _ _ _ _ _ r h => by simp [spec_LKMatch.j2] at h, fun _ _ _ _ _ r h => by simp [spec_LKMatch.l0] at h⟩
  | k + 1 => by
    obtain ⟨ih0, ih1, ih2, ih3⟩ := spec_LKMatch.mono_l k
    refine ⟨?_, ?_, ?_, ?_⟩
    · intro y0 y1 y2 y3
      unfold spec_LKMatch.f
      repeat' first
      | (with_reducible exact ih0 _ _ _ _)
      | (with_reducible exact ih1 _ _ _ _)
      | (with_reducible exact ih2 _ _ _ _ _)
      | (with_reducible exact ih3 _ _ _ _ _)
      | (with_reducible exact LeO.refl _)
      | (with_reducible exact LeO.none _)
      | (with_reducible refine LeO.ite ?_ ?_)
      | (with_reducible refine LeO.bind ?_ (fun _ => ?_))
      | exact ih0 _ _ _ _
      | exact ih1 _ _ _ _
      | exact ih2 _ _ _ _ _
      | exact ih3 _ _ _ _ _
      | exact LeO.none _
      | refine LeO.ite ?_ ?_
      | refine LeO.bind ?_ (fun _ => ?_)
    · intro y0 y1 y2 y3
      unfold spec_LKMatch.j1
      repeat' first
      | (with_reducible exact ih0 _ _ _ _)
      | (with_reducible exact ih1 _ _ _ _)
      | (with_reducible exact ih2 _ _ _ _ _)
      | (with_reducible exact ih3 _ _ _ _ _)
      | (with_reducible exact LeO.refl _)
      | (with_reducible exact LeO.none _)
      | (with_reducible refine LeO.ite ?_ ?_)
      | (with_reducible refine LeO.bind ?_ (fun _ => ?_))
      | exact ih0 _ _ _ _
      | exact ih1 _ _ _ _
      | exact ih2 _ _ _ _ _
      | exact ih3 _ _ _ _ _
      | exact LeO.none _
      | refine LeO.ite ?_ ?_
      | refine LeO.bind ?_ (fun _ => ?_)
    · intro y0 y1 y2 y3 y4
      unfold spec_LKMatch.j2
      repeat' first
      | (with_reducible exact ih0 _ _ _ _)
      | (with_reducible exact ih1 _ _ _ _)
      | (with_reducible exact ih2 _ _ _ _ _)
      | (with_reducible exact ih3 _ _ _ _ _)
      | (with_reducible exact LeO.refl _)
      | (with_reducible exact LeO.none _)
      | (with_reducible refine LeO.ite ?_ ?_)
      | (with_reducible refine LeO.bind ?_ (fun _ => ?_))
      | exact ih0 _ _ _ _
      | exact ih1 _ _ _ _
      | exact ih2 _ _ _ _ _
      | exact ih3 _ _ _ _ _
      | exact LeO.none _
      | refine LeO.ite ?_ ?_
      | refine LeO.bind ?_ (fun _ => ?_)
    · intro y0 y1 y2 y3 y4
      unfold spec_LKMatch.l0
      repeat' first
      | (with_reducible exact ih0 _ _ _ _)
      | (with_reducible exact ih1 _ _ _ _)
      | (with_reducible exact ih2 _ _ _ _ _)
      | (with_reducible exact ih3 _ _ _ _ _)
      | (with_reducible exact LeO.refl _)
      | (with_reducible exact LeO.none _)
      | (with_reducible refine LeO.ite ?_ ?_)
      | (with_reducible refine LeO.bind ?_ (fun _ => ?_))
      | exact ih0 _ _ _ _
      | exact ih1 _ _ _ _
      | exact ih2 _ _ _ _ _
      | exact ih3 _ _ _ _ _
      | exact LeO.none _
      | refine LeO.ite ?_ ?_
      | refine LeO.bind ?_ (fun _ => ?_)
theorem spec_LKMatch.mono : ∀ a0 a1 a2 a3 k, LeO (spec_LKMatch.f k a0 a1 a2 a3) (spec_LKMatch.f (k + 1) a0 a1 a2 a3) := by
  intro a0 a1 a2 a3 k
  obtain ⟨ih0, ih1, ih2, ih3⟩ := spec_LKMatch.mono_l k
  exact ih0 a0 a1 a2 a3
def spec_LKMatch.T11 : Bool × List (List Nat × List Nat) := (true, [([], []), ([], []), ([1], [1]), ([], []), ([], []), ([], []), ([4, 5], [4, 5]), ([0, 2, 3, 6], [0, 2, 3, 6]), ([7], [7]), ([8], [8]), ([8], [8]), ([9, 7, 0, 1, 2, 3, 4, 5, 6, 7, 8, 9], [9]), ([10, 11, 0, 1, 2, 3, 4, 5, 6, 7, 8, 9, 10, 11], [10])])
def spec_LKMatch.B11 : List Nat := [0, 0, 2, 0, 0, 0, 48, 127, 255, 511, 511, 1023, 4095]
theorem spec_LKMatch.tab11 : rtab .any (opsOf Tryd.f13 11) = spec_LKMatch.T11 := by kernel_rfl
theorem spec_LKMatch.bits11 : waitsOk spec_LKMatch.T11.2 spec_LKMatch.B11 = true := by kernel_rfl
def spec_LKMatch.T19 : Bool × List (List Nat × List Nat) := (true, [([], []), ([], []), ([1], [1]), ([], []), ([], []), ([4], [4]), ([0, 2, 3, 5], [0, 2, 3, 5]), ([6], [6]), ([6], [6]), ([7, 6, 0, 1, 2, 3, 4, 5, 6, 7, 8], [7]), ([8, 9, 0, 1, 2, 3, 4, 5, 6, 7, 8, 9], [8])])
def spec_LKMatch.B19 : List Nat := [0, 0, 2, 0, 0, 16, 63, 127, 127, 511, 1023]
theorem spec_LKMatch.tab19 : rtab .any (opsOf Tryd.f13 19) = spec_LKMatch.T19 := by kernel_rfl
theorem spec_LKMatch.bits19 : waitsOk spec_LKMatch.T19.2 spec_LKMatch.B19 = true := by kernel_rfl
def spec_LKMatch.T20 : Bool × List (List Nat × List Nat) := (true, [([], []), ([0], [0]), ([1], [1]), ([2], [2]), ([3], [3]), ([3], [3]), ([5, 3], [3, 5]), ([6, 3], [3, 6]), ([4, 7, 3, 3], [3, 4, 7]), ([3], [3]), ([3], [3]), ([10, 3], [3, 10]), ([11, 3], [3, 11]), ([9, 12, 8, 3], [3, 9, 12]), ([8, 13, 3], [3, 8, 13]), ([3, 14], [3, 14])])
def spec_LKMatch.B20 : List Nat := [0, 1, 3, 7, 15, 15, 47, 111, 255, 15, 15, 1039, 3087, 8191, 16383, 32767]
theorem spec_LKMatch.tab20 : rtab .any (opsOf Tryd.f13 20) = spec_LKMatch.T20 := by kernel_rfl
theorem spec_LKMatch.bits20 : waitsOk spec_LKMatch.T20.2 spec_LKMatch.B20 = true := by kernel_rfl
def spec_LKMatch.T23 : Bool × List (List Nat × List Nat) := (true, [([], []), ([], []), ([1], [1]), ([], []), ([], []), ([4], [4]), ([0, 2, 3, 5], [0, 2, 3, 5]), ([6], [6]), ([6], [6]), ([7, 6, 0, 1, 2, 3, 4, 5, 6, 7, 8], [7]), ([8, 9, 0, 1, 2, 3, 4, 5, 6, 7, 8, 9], [8])])
def spec_LKMatch.B23 : List Nat := [0, 0, 2, 0, 0, 16, 63, 127, 127, 511, 1023]
theorem spec_LKMatch.tab23 : rtab .any (opsOf Tryd.f13 23) = spec_LKMatch.T23 := by kernel_rfl
theorem spec_LKMatch.bits23 : waitsOk spec_LKMatch.T23.2 spec_LKMatch.B23 = true := by kernel_rfl
set_option maxHeartbeats 8000000 in
set_option maxRecDepth 100000 in
theorem spec_LKMatch.calls (k : Nat) : ∀ (a0 : Bool) (P1_ : Nat → Prop) (A1 : Option Addr) (c1 : Nat) (l1 : List Int) (a2 : Int) (A3 : Option Addr) (c3 : Nat) (l3 : List Int) (r1 : Bool) (r2 : Bool) (w : World) (hs1 : Kd.V (Kd.int .i32) 21 w w.heap.size (fun k_ => P1_ k_) (.slice A1 l1.length c1) l1) (hr3 : Kd.C (Kd.int .i32) w A3 l3.length l3) (hc3 : l3.length ≤ c3) (h : spec_LKMatch.f k a0 l1 a2 l3 = some (r1, r2)),
    Calls Tryd.prog 13 #[.bool a0, .slice A1 l1.length c1, .int .i32 a2, .slice A3 l3.length c3] w fun e w' => e = .returned (.tuple #[.bool r1, .bool r2]) ∧ Below w.heap.size w w' := by
  induction k using Nat.strongRecOn with
  | _ k ih =>
  intro a0 P1_ A1 c1 l1 a2 A3 c3 l3 r1 r2 w hs1 hr3 hc3 h
  cases k with
  | zero => exact absurd h (by simp [spec_LKMatch.f])
  | succ k =>
  simp only [spec_LKMatch.f] at h
  have HO1 := Aside0.mk (show Kd.V (Kd.int .i32) 21 w w.heap.size (fun k_ => (P1_ k_ ∨ w.heap.size ≤ k_)) (.slice A1 l1.length c1) l1 from Kd.V_mono hs1 (fun k_ hk => .inl hk))
  have HR3 := Aside0.mk hr3
  have HC3 := Aside0.mk hc3
  clear hr3 hc3
  have HB := Aside0.mk (Below.refl w.heap.size w)
  have H : (if (l1.length : Int) = 0 then (some (((l3.length : Int) == 0), true)) else (if 0 < (l1.length : Int) then (if (rd l1 0) = a2 then (if (l1.length : Int) = 1 then (some (false, false)) else (if 1 ≤ (l1.length : Int) then (spec_LKMatch.j1 k a0 (l1.drop 1) a2 l3) else (none))) else (if (rd l1 0) = 37 then (spec_LKMatch.l0 k a0 l1 a2 l3 0) else (if (rd l1 0) = 95 then (if (l3.length : Int) = 0 then (if 1 ≤ (l1.length : Int) then ((spec_LKMatch.f k a0 (l1.drop 1) a2 l3).bind fun bt130 => (some (false, bt130.2))) else (none)) else (if 1 ≤ (l1.length : Int) then (if 1 ≤ (l3.length : Int) then ((spec_LKMatch.f k a0 (l1.drop 1) a2 (l3.drop 1)).bind fun bt138 => (some (bt138.1, bt138.2))) else (none)) else (none))) else (spec_LKMatch.j1 k a0 l1 a2 l3)))) else (none))) = some (r1, r2) := h
  clear h
  by_cases c5 : (l1.length : Int) = 0
  · rw [if_pos c5] at H
    have c5b0 : ((l1.length : Int) == 0) = true := beq_iff_eq.mpr c5
    have c5b1 : ((l1.length : Int) != 0) = false := bne_eq_false_iff_eq.mpr c5
    clear c5
    simp only [Option.some.injEq, Prod.mk.injEq] at H
    obtain ⟨rfl, rfl⟩ := H
    go_enter Tryd.func13, Tryd.ntmps13
    go_wp2
    go_ret2
    exact ⟨by first | rfl | (simp [errW_none, errW_some] <;> rfl) | (simp [*, errW_none, errW_some] <;> rfl), by repeat (first | (with_reducible first | exact HB.out | apply below_alloc | apply pw_below_drewN | apply below_drew1) | exact HB.out)⟩
  · rw [if_neg c5] at H
    have c5b0 : ((l1.length : Int) == 0) = false := beq_eq_false_iff_ne.mpr c5
    have c5b1 : ((l1.length : Int) != 0) = true := bne_iff_ne.mpr c5
    have c5b2 : ¬ (l1 = []) := fun h_ => c5 (by rw [h_]; rfl)
    have HC6 := Aside0.mk H
    clear H
    go_enter Tryd.func13, Tryd.ntmps13
    go_upto_block 0 with (fail)
    go_cut [1] (fun v1 wc => ∃ (kq : Nat) (x1_5 : List Int), Aside0 (spec_LKMatch.j1 kq a0 x1_5 a2 l3 = some (r1, r2)) ∧ Aside0 (kq ≤ k) ∧ Aside0 (Kd.V (Kd.int .i32) 21 wc w.heap.size (fun k_ => (P1_ k_ ∨ w.heap.size ≤ k_)) v1 x1_5) ∧ Aside0 (Below w.heap.size w wc))
    case first =>
      have H := HC6.out
      clear HC6
      by_cases c7 : 0 < (l1.length : Int)
      · rw [if_pos c7] at H
        have c7b0 : decide (0 < (l1.length : Int)) = true := decide_eq_true c7
        have c7b1 : decide (0 < l1.length) = true := decide_eq_true (by omega)
        clear c7
        (first | rw [c7b0] | (simp only [i64_w, i32_w]; rw [c7b0]) | skip)
        by_cases c8 : (rd l1 0) = a2
        · rw [if_pos c8] at H
          have c8b0 : ((rd l1 0) == a2) = true := beq_iff_eq.mpr c8
          have c8b1 : ((rd l1 0) != a2) = false := bne_eq_false_iff_eq.mpr c8
          clear c8
          by_cases c9 : (l1.length : Int) = 1
          · rw [if_pos c9] at H
            have c9b0 : ((l1.length : Int) == 1) = true := beq_iff_eq.mpr c9
            have c9b1 : ((l1.length : Int) != 1) = false := bne_eq_false_iff_eq.mpr c9
            clear c9
            simp only [Option.some.injEq, Prod.mk.injEq] at H
            obtain ⟨rfl, rfl⟩ := H
            have p109 : 0 ≤ (0 : Int) := (by omega)
            have q109 : 0 < (l1.length : Int) := of_decide_eq_true (by first | (with_reducible assumption) | assumption)
            obtain ⟨ad109, e109, hx109_0⟩ := Kd.at_int (Kd.V_reads' HO1.out).2.2 0 p109 q109
            cases e109
            have qi109 : (0 < l1.length) = True := eq_true (by omega)
            (try rw [show ((0 : Int)).toNat = 0 from rfl] at hx109_0)
            (try rw [Addr.add_zero'] at hx109_0)
            replace p109 := eq_true p109
            replace q109 := eq_true q109
            go_wp2
            go_ret2
            exact ⟨by first | rfl | (simp [errW_none, errW_some] <;> rfl) | (simp [*, errW_none, errW_some] <;> rfl), by repeat (first | (with_reducible first | exact HB.out | apply below_alloc | apply pw_below_drewN | apply below_drew1) | exact HB.out)⟩
          · rw [if_neg c9] at H
            have c9b0 : ((l1.length : Int) == 1) = false := beq_eq_false_iff_ne.mpr c9
            have c9b1 : ((l1.length : Int) != 1) = true := bne_iff_ne.mpr c9
            by_cases c10 : 1 ≤ (l1.length : Int)
            · rw [if_pos c10] at H
              have c10b0 := eq_true c10
              have c10b1 : decide (1 ≤ (l1.length : Int)) = true := decide_eq_true c10
              clear c10
              obtain ⟨y110, hy110⟩ : ∃ y_ : List Int, y_ = (l1.drop 1) := ⟨_, rfl⟩
              replace H : (spec_LKMatch.j1 k a0 y110 a2 l3) = some (r1, r2) := by first | (rw [hy110]; with_reducible exact H) | (have H2_ := (Option.bind_some _ _).symm.trans H; rw [hy110]; with_reducible exact H2_) | (have H2_ := (Option.bind_some _ _).symm.trans H; with_reducible exact H2_) | with_reducible exact H | (rw [hy110]; exact H) | exact H
              have Ny110 := Aside0.mk hy110
              clear hy110
              have H' := Aside0.mk H
              clear H
              have p109 : 0 ≤ (0 : Int) := (by omega)
              have q109 : 0 < (l1.length : Int) := of_decide_eq_true (by first | (with_reducible assumption) | assumption)
              obtain ⟨ad109, e109, hx109_0⟩ := Kd.at_int (Kd.V_reads' HO1.out).2.2 0 p109 q109
              cases e109
              have qi109 : (0 < l1.length) = True := eq_true (by omega)
              (try rw [show ((0 : Int)).toNat = 0 from rfl] at hx109_0)
              (try rw [Addr.add_zero'] at hx109_0)
              replace p109 := eq_true p109
              replace q109 := eq_true q109
              have q11 : (1 : Int) ≤ ((l1.length : Int) : Int) := of_decide_eq_true (by first | (with_reducible assumption) | assumption)
              obtain ⟨i011, hi011, _, hsz11, _⟩ := info_parts info21
              have hroom11 : l1.length ≤ c1 := (Kd.V_reads' HO1.out).2.1
              have hC11 : Kd.F (Kd.int .i32) _ _ (some ad109) l1.length l1 := (Kd.V_at (base := w.heap.size) HO1.out).2.2
              have hcut11 := cut_from (P := Tryd.prog) 27 21 .i64 Tryd.underlying27 hi011 1 hsz11 (some ad109) l1.length c1 1 (by omega) q11
              have hr11 := Kd.F_cut (m := (1 : Int).toNat) (c := c1) hC11 (by omega) hroom11
              obtain ⟨A11, hA11⟩ : ∃ A1, A1 = (if c1 = (1 : Int).toNat then (some ad109) else ((some ad109) : Option Addr).map (·.add ((1 : Int).toNat * 1))) := ⟨_, rfl⟩
              obtain ⟨c11, hc11⟩ : ∃ zz_, zz_ = c1 - (1 : Int).toNat := ⟨_, rfl⟩
              have hy11 : y110.length = l1.length - (1 : Int).toNat := (by rw [Ny110.out, List.length_drop] <;> omega)
              rw [show (l1).drop (1 : Int).toNat = y110 from Ny110.out.symm] at hr11
              replace hr11 : Kd.F (Kd.int .i32) _ _ A11 y110.length y110 := (by rw [hA11]; exact hr11)
              rw [← hy11, ← hA11, ← hc11] at hcut11
              have HO114 := Aside0.mk (show Kd.V (Kd.int .i32) 21 _ w.heap.size _ (.slice A11 y110.length c11) y110 from Kd.V_mk (by rw [hy11, hc11]; exact Nat.sub_le_sub_right hroom11 _) hr11)
              have HC114 := Aside0.mk (show y110.length ≤ c11 from by rw [hy11, hc11]; exact Nat.sub_le_sub_right hroom11 _)
              clear hr11 hC11 hroom11 hi011 hsz11 hc11
              have KY11 := Aside0.mk hy11
              have KA11 := Aside0.mk hA11
              clear hy11 hA11
              replace q11 := eq_true q11
              go_wp2
              go_meet
              case rel => exact ⟨_, (y110), H', ⟨by first | omega | exact Nat.le_refl _⟩, ⟨by (with_reducible repeat (first | apply Kd.V_alloc | apply Kd.V_drewN | apply Kd.V_drew)); exact HO114.out⟩, ⟨by repeat (first | (with_reducible first | exact HB.out | apply below_alloc | apply pw_below_drewN | apply below_drew1) | exact HB.out)⟩⟩
            · rw [if_neg c10] at H
              exact absurd H (by simp)
        · rw [if_neg c8] at H
          have c8b0 : ((rd l1 0) == a2) = false := beq_eq_false_iff_ne.mpr c8
          have c8b1 : ((rd l1 0) != a2) = true := bne_iff_ne.mpr c8
          by_cases c12 : (rd l1 0) = 37
          · rw [if_pos c12] at H
            have c12b0 : ((rd l1 0) == 37) = true := beq_iff_eq.mpr c12
            have c12b1 : ((rd l1 0) != 37) = false := bne_eq_false_iff_eq.mpr c12
            clear c12
            have H' := Aside0.mk H
            clear H
            have p109 : 0 ≤ (0 : Int) := (by omega)
            have q109 : 0 < (l1.length : Int) := of_decide_eq_true (by first | (with_reducible assumption) | assumption)
            obtain ⟨ad109, e109, hx109_0⟩ := Kd.at_int (Kd.V_reads' HO1.out).2.2 0 p109 q109
            cases e109
            have qi109 : (0 < l1.length) = True := eq_true (by omega)
            (try rw [show ((0 : Int)).toNat = 0 from rfl] at hx109_0)
            (try rw [Addr.add_zero'] at hx109_0)
            replace p109 := eq_true p109
            replace q109 := eq_true q109
            have p115 : 0 ≤ (0 : Int) := (by omega)
            have q115 : 0 < (l1.length : Int) := of_decide_eq_true (by first | (with_reducible assumption) | assumption)
            obtain ⟨ad115, e115, hx115_0⟩ := Kd.at_int (Kd.V_reads' HO1.out).2.2 0 p115 q115
            obtain rfl : ad109 = ad115 := (by injection e115)
            have qi115 : (0 < l1.length) = True := eq_true (by omega)
            (try rw [show ((0 : Int)).toNat = 0 from rfl] at hx115_0)
            (try rw [Addr.add_zero'] at hx115_0)
            replace p115 := eq_true p115
            replace q115 := eq_true q115
            go_wp2
            go_loopg [10] k (fun kq v10 w' => ∃ (x10_1 : Int), v10 = .int .i64 x10_1 ∧ Aside0 (spec_LKMatch.l0 kq a0 l1 a2 l3 x10_1 = some (r1, r2)) ∧ Aside0 (kq ≤ k) ∧ Aside0 (Kd.V (Kd.int .i32) 21 w' w.heap.size (fun k_ => (P1_ k_ ∨ w.heap.size ≤ k_)) (.slice (some ad109) l1.length c1) l1) ∧ Aside0 (Below w.heap.size w w'))
            case atStart => exact ⟨(0), (by first | rfl | (simp; done) | (simp [*]; done)), H', ⟨Nat.le_refl _⟩, ⟨by (with_reducible repeat (first | apply Kd.V_alloc | apply Kd.V_drewN | apply Kd.V_drew)); exact HO1.out⟩, ⟨by repeat (first | (with_reducible first | exact HB.out | apply below_alloc | apply pw_below_drewN | apply below_drew1) | exact HB.out)⟩⟩
            case round =>
              clear H'
              try clear c1
              try clear p1
              try clear q1
              try clear hx1
              try clear qi1
              try clear p2
              try clear c3
              try clear c5
              try clear c5b0
              try clear c5b1
              try clear c5b2
              try clear c7
              try clear c7b0
              try clear c7b1
              try clear c8
              try clear c8b0
              try clear c8b1
              try clear c9
              try clear c9b0
              try clear c9b1
              try clear c10
              try clear c10b0
              try clear c10b1
              try clear p10
              try clear q10
              try clear hx10
              try clear qi10
              try clear c11
              try clear p11
              try clear q11
              try clear hx11
              try clear qi11
              try clear c12
              try clear c12b0
              try clear c12b1
              try clear hx109_0
              try clear hx115_0
              try clear p109
              try clear p115
              try clear q109
              try clear q11
              try clear q115
              obtain ⟨x10_1, rfl, HA, HK1, HO_1, HB⟩ := hrel
              cases gk with
              | zero => exact absurd HA.out (by simp [spec_LKMatch.l0])
              | succ k1 =>
                have H := HA.out
                clear HA
                simp only [spec_LKMatch.l0] at H
                by_cases c13 : x10_1 ≤ (l3.length : Int)
                · rw [if_pos c13] at H
                  have c13b0 : decide (x10_1 ≤ (l3.length : Int)) = true := decide_eq_true c13
                  clear c13
                  by_cases c14 : 1 ≤ (l1.length : Int)
                  · rw [if_pos c14] at H
                    have c14b0 := eq_true c14
                    have c14b1 : decide (1 ≤ (l1.length : Int)) = true := decide_eq_true c14
                    clear c14
                    obtain ⟨y116, hy116⟩ : ∃ y_ : List Int, y_ = (l1.drop 1) := ⟨_, rfl⟩
                    replace H : (if 0 ≤ x10_1 then ((spec_LKMatch.f k1 a0 y116 a2 (l3.drop (x10_1 : Int).toNat)).bind fun bt122 => (if bt122.1 = true then (some (bt122.1, bt122.2)) else (if bt122.2 = true then (spec_LKMatch.l0 k1 a0 l1 a2 l3 (wrap64 (x10_1 + 1))) else (some (bt122.1, bt122.2))))) else (none)) = some (r1, r2) := by first | (rw [hy116]; with_reducible exact H) | (have H2_ := (Option.bind_some _ _).symm.trans H; rw [hy116]; with_reducible exact H2_) | (have H2_ := (Option.bind_some _ _).symm.trans H; with_reducible exact H2_) | with_reducible exact H | (rw [hy116]; exact H) | exact H
                    have Ny116 := Aside0.mk hy116
                    clear hy116
                    by_cases c15 : 0 ≤ x10_1
                    · rw [if_pos c15] at H
                      have c15b0 := eq_true c15
                      have c15b1 : decide (0 ≤ x10_1) = true := decide_eq_true c15
                      clear c15
                      have c16b0 := eq_true (of_decide_eq_true (by first | (with_reducible assumption) | assumption) : x10_1 ≤ (l3.length : Int))
                      replace H := Option.bind_eq_some_iff.mp H
                      obtain ⟨⟨t122, t123⟩, A170, H⟩ := H
                      replace H : (if t122 = true then (some (t122, t123)) else (if t123 = true then (spec_LKMatch.l0 k1 a0 l1 a2 l3 (wrap64 (x10_1 + 1))) else (some (t122, t123)))) = some (r1, r2) := H
                      have A17 := Aside0.mk A170
                      clear A170
                      by_cases c18 : t122 = true
                      · subst c18
                        have H1 : (some (true, t123)) = some (r1, r2) := by rw [if_pos rfl] at H; exact H
                        clear H
                        have H := H1
                        clear H1
                        simp only [Option.some.injEq, Prod.mk.injEq] at H
                        obtain ⟨rfl, rfl⟩ := H
                        try go_wp2
                        have n0_ := Aside0.mk (Kd.V_drew HO_1.out)
                        have n1_ := Aside0.mk (below_drew1 HB.out)
                        clear HO_1
                        clear HB
                        have HO_1 := n0_
                        have HB := n1_
                        clear n0_ n1_
                        have q20 : (1 : Int) ≤ ((l1.length : Int) : Int) := of_decide_eq_true (by first | (with_reducible assumption) | assumption)
                        obtain ⟨i020, hi020, _, hsz20, _⟩ := info_parts info21
                        have hroom20 : l1.length ≤ c1 := (Kd.V_reads' HO_1.out).2.1
                        have hC20 : Kd.F (Kd.int .i32) _ _ (some ad109) l1.length l1 := (Kd.V_at (base := w.heap.size) HO_1.out).2.2
                        have hcut20 := cut_from (P := Tryd.prog) 27 21 .i64 Tryd.underlying27 hi020 1 hsz20 (some ad109) l1.length c1 1 (by omega) q20
                        have hr20 := Kd.F_cut (m := (1 : Int).toNat) (c := c1) hC20 (by omega) hroom20
                        obtain ⟨A20, hA20⟩ : ∃ A1, A1 = (if c1 = (1 : Int).toNat then (some ad109) else ((some ad109) : Option Addr).map (·.add ((1 : Int).toNat * 1))) := ⟨_, rfl⟩
                        obtain ⟨c20, hc20⟩ : ∃ zz_, zz_ = c1 - (1 : Int).toNat := ⟨_, rfl⟩
                        have hy20 : y116.length = l1.length - (1 : Int).toNat := (by rw [Ny116.out, List.length_drop] <;> omega)
                        rw [show (l1).drop (1 : Int).toNat = y116 from Ny116.out.symm] at hr20
                        replace hr20 : Kd.F (Kd.int .i32) _ _ A20 y116.length y116 := (by rw [hA20]; exact hr20)
                        rw [← hy20, ← hA20, ← hc20] at hcut20
                        have HO120 := Aside0.mk (show Kd.V (Kd.int .i32) 21 _ w.heap.size _ (.slice A20 y116.length c20) y116 from Kd.V_mk (by rw [hy20, hc20]; exact Nat.sub_le_sub_right hroom20 _) hr20)
                        have HC120 := Aside0.mk (show y116.length ≤ c20 from by rw [hy20, hc20]; exact Nat.sub_le_sub_right hroom20 _)
                        clear hr20 hC20 hroom20 hi020 hsz20 hc20
                        have KY20 := Aside0.mk hy20
                        have KA20 := Aside0.mk hA20
                        clear hy20 hA20
                        replace q20 := eq_true q20
                        obtain ⟨i021, hi021, _, hsz21, _⟩ := info_parts info21
                        obtain ⟨A21, hcut21, hA21, hC21⟩ := print_drop_of (P := Tryd.prog) (Value.int .i32) 0 27 21 .i64 Tryd.underlying27 hi021 hsz21 A3 c3 l3 x10_1 (of_decide_eq_true (by first | (with_reducible assumption) | assumption)) (of_decide_eq_true (by first | (with_reducible assumption) | assumption)) HC3.out
                        have HR121 := Aside0.mk (Kd.C_of_reads (h1 := fun _ => rfl) (hA21 _ (Kd.reads_of_C HR3.out)))
                        have HC121 := Aside0.mk hC21
                        clear hA21 hC21 hi021 hsz21
                        refine start_ (n := 13) (S := fun w' => True) (ds := []) #[false, false, false, false, false, false, false, false, false, false, false, false, false] (by kernel_rfl) rfl rfl trivial (fun hHeld => ?_); refine with_tabW spec_LKMatch.tab11 spec_LKMatch.bits11 (fun HT_ HW_ => ?_)
                        generalize wr.drew = w19 at HO_1 HB HO120 HR121 hHeld ⊢
                        refine pure_ (i := 0) (N := some 40) (v := ?_) (a' := ?_) #[true, false, false, false, false, false, false, false, false, false, false, false, false] rfl rfl (any_of HT_.out (by kernel_rfl)) (fun _ _ _ h => h) (Or.inl ⟨by rfl, ?_⟩) ?_ ?_
                        rotate_left
                        · intro w'
                          go_simp
                          with_reducible rfl
                        rotate_left
                        · simp only [Act.put, List.setIfInBounds_toArray, List.set_cons_zero, List.set_cons_succ, i64_w, i32_w]
                          rfl
                        refine pure_ (i := 1) (N := some 41) (v := ?_) (a' := ?_) #[true, true, false, false, false, false, false, false, false, false, false, false, false] rfl rfl (any_of HT_.out (by kernel_rfl)) (fun _ _ _ h => h) (Or.inl ⟨by rfl, ?_⟩) ?_ ?_
                        rotate_left
                        · intro w'
                          go_simp
                          with_reducible rfl
                        rotate_left
                        · simp only [Act.put, List.setIfInBounds_toArray, List.set_cons_zero, List.set_cons_succ, i64_w, i32_w]
                          rfl
                        refine pure_ (i := 2) (N := some 42) (v := ?_) (a' := ?_) #[true, true, true, false, false, false, false, false, false, false, false, false, false] rfl rfl (any_of HT_.out (by kernel_rfl)) (fun _ _ _ h => h) (Or.inl ⟨by rfl, ?_⟩) ?_ ?_
                        rotate_left
                        · intro w'
                          go_simp
                          with_reducible rfl
                        rotate_left
                        · simp only [Act.put, List.setIfInBounds_toArray, List.set_cons_zero, List.set_cons_succ, i64_w, i32_w]
                          rfl
                        refine pure_ (i := 3) (N := some 43) (v := ?_) (a' := ?_) #[true, true, true, true, false, false, false, false, false, false, false, false, false] rfl rfl (any_of HT_.out (by kernel_rfl)) (fun _ _ _ h => h) (Or.inl ⟨by rfl, ?_⟩) ?_ ?_
                        rotate_left
                        · intro w'
                          go_simp
                          with_reducible rfl
                        rotate_left
                        · simp only [Act.put, List.setIfInBounds_toArray, List.set_cons_zero, List.set_cons_succ, i64_w, i32_w]
                          rfl
                        refine pure_ (i := 4) (N := some 44) (v := ?_) (a' := ?_) #[true, true, true, true, true, false, false, false, false, false, false, false, false] rfl rfl (any_of HT_.out (by kernel_rfl)) (fun _ _ _ h => h) (Or.inl ⟨by rfl, ?_⟩) ?_ ?_
                        rotate_left
                        · intro w'
                          go_simp
                          with_reducible rfl
                        rotate_left
                        · simp only [Act.put, List.setIfInBounds_toArray, List.set_cons_zero, List.set_cons_succ, i64_w, i32_w]
                          rfl
                        refine pure_ (i := 5) (N := some 45) (v := ?_) (a' := ?_) #[true, true, true, true, true, true, false, false, false, false, false, false, false] rfl rfl (any_of HT_.out (by kernel_rfl)) (fun _ _ _ h => h) (Or.inl ⟨by rfl, ?_⟩) ?_ ?_
                        rotate_left
                        · intro w'
                          go_simp
                          with_reducible rfl
                        rotate_left
                        · simp only [Act.put, List.setIfInBounds_toArray, List.set_cons_zero, List.set_cons_succ, i64_w, i32_w]
                          rfl
                        refine pure_ (i := 6) (N := some 46) (v := ?_) (a' := ?_) #[true, true, true, true, true, true, true, false, false, false, false, false, false] rfl rfl (any_of HT_.out (by kernel_rfl)) (fun _ _ _ h => h) (Or.inl ⟨by rfl, ?_⟩) ?_ ?_
                        rotate_left
                        · intro w'
                          go_simp
                          with_reducible rfl
                        rotate_left
                        · simp only [Act.put, List.setIfInBounds_toArray, List.set_cons_zero, List.set_cons_succ, i64_w, i32_w]
                          rfl
                        refine one_ (i := 7) (N := some 47) #[true, true, true, true, true, true, true, true, false, false, false, false, false] rfl rfl (one_of HT_.out (by kernel_rfl)) (by decide) (fun K hK => ?_)
                        refine goes_ Tryd.func13 (by kernel_rfl) rfl #[.bool a0, .slice A20 y116.length c20, .int .i32 a2, .slice A21 (l3.drop (x10_1 : Int).toNat).length (c3 - x10_1.toNat)] (by rfl) rfl rfl (by (try simp only [List.map_toArray, List.map_cons, List.map_nil]); first | done | (rw [show (l3.drop (x10_1 : Int).toNat).length = (l3.length - x10_1.toNat) from List.length_drop] <;> rfl) | rfl | (simp only [List.length_drop, List.length_take]; rfl)) ?_
                        with_reducible refine (ih k1 (by have := HK1.out; omega) a0 (fun k_ => (P1_ k_ ∨ w.heap.size ≤ k_)) _ _ y116 a2 _ _ (l3.drop (x10_1 : Int).toNat) true t123 _ ?side1 ?side2 ?side3 A17.out).mono ?_
                        (case side1 => exact HO120.out)
                        (case side2 => repeat (first | exact (Kd.C_below HR121.out HB.out) | (with_reducible refine Kd.C_alloc ?_ _) | (with_reducible refine Kd.C_drewN ?_ _) | (with_reducible refine Kd.C_drew ?_)))
                        (case side3 => exact HC121.out)
                        rintro e w22 ⟨rfl, hb⟩
                        refine ⟨_, rfl, ?_⟩
                        have n0_ := Aside0.mk (Kd.V_below (by (with_reducible repeat (first | apply Kd.V_alloc | apply Kd.V_drewN | apply Kd.V_drew)); exact HO_1.out) hb)
                        have n1_ := Aside0.mk (Kd.V_below (by (with_reducible repeat (first | apply Kd.V_alloc | apply Kd.V_drewN | apply Kd.V_drew)); exact HO120.out) hb)
                        have n2_ := Aside0.mk (below_step (by repeat (first | (with_reducible first | exact HB.out | apply below_alloc | apply pw_below_drewN | apply below_drew1) | exact HB.out)) hb)
                        clear HO_1
                        clear HO120
                        clear HB
                        have HO_1 := n0_
                        have HO120 := n1_
                        have HB := n2_
                        clear n0_ n1_ n2_
                        (try clear hb)
                        (try clear hb2)
                        (try clear hk)
                        (try clear hi)
                        refine hK.out _ _ trivial (fun hHeld => ?_)
                        clear hK K
                        refine norm_ (a' := ?_) ?_ ?_
                        rotate_left
                        · show Act.put _ (some 47) _ = _
                          simp only [Act.put, List.setIfInBounds_toArray, List.set_cons_zero, List.set_cons_succ, i64_w, i32_w]
                          rfl
                        refine pure_ (i := 8) (N := some 39) (v := ?_) (a' := ?_) #[true, true, true, true, true, true, true, true, true, false, false, false, false] rfl rfl (any_of HT_.out (by kernel_rfl)) (fun _ _ _ h => h) (Or.inl ⟨by rfl, ?_⟩) ?_ ?_
                        rotate_left
                        · intro w'
                          go_simp
                          with_reducible rfl
                        rotate_left
                        · simp only [Act.put, List.setIfInBounds_toArray, List.set_cons_zero, List.set_cons_succ, i64_w, i32_w]
                          rfl
                        refine pure_ (i := 9) (N := some 48) (v := ?_) (a' := ?_) #[true, true, true, true, true, true, true, true, true, true, false, false, false] rfl rfl (any_of HT_.out (by kernel_rfl)) (fun _ _ _ h => h) (Or.inl ⟨by rfl, ?_⟩) ?_ ?_
                        rotate_left
                        · intro w'
                          go_simp
                          with_reducible rfl
                        rotate_left
                        · simp only [Act.put, List.setIfInBounds_toArray, List.set_cons_zero, List.set_cons_succ, i64_w, i32_w]
                          rfl
                        refine pure_ (i := 10) (N := some 49) (v := ?_) (a' := ?_) #[true, true, true, true, true, true, true, true, true, true, true, false, false] rfl rfl (any_of HT_.out (by kernel_rfl)) (fun _ _ _ h => h) (Or.inl ⟨by rfl, ?_⟩) ?_ ?_
                        rotate_left
                        · intro w'
                          go_simp
                          with_reducible rfl
                        rotate_left
                        · simp only [Act.put, List.setIfInBounds_toArray, List.set_cons_zero, List.set_cons_succ, i64_w, i32_w]
                          rfl
                        refine pure_ (i := 11) (N := some 8) (v := ?_) (a' := ?_) #[true, true, true, true, true, true, true, true, true, true, true, true, false] rfl rfl (any_of HT_.out (by kernel_rfl)) (fun _ _ _ h => h) (Or.inl ⟨by rfl, ?_⟩) ?_ ?_
                        rotate_left
                        · intro w'
                          go_simp
                          with_reducible rfl
                        rotate_left
                        · simp only [Act.put, List.setIfInBounds_toArray, List.set_cons_zero, List.set_cons_succ, i64_w, i32_w]
                          rfl
                        refine pure_ (i := 12) (N := some 9) (v := ?_) (a' := ?_) #[true, true, true, true, true, true, true, true, true, true, true, true, true] rfl rfl (any_of HT_.out (by kernel_rfl)) (fun _ _ _ h => h) (Or.inl ⟨by rfl, ?_⟩) ?_ ?_
                        rotate_left
                        · intro w'
                          go_simp
                          with_reducible rfl
                        rotate_left
                        · simp only [Act.put, List.setIfInBounds_toArray, List.set_cons_zero, List.set_cons_succ, i64_w, i32_w]
                          rfl
                        refine done_ (done_of HT_.out (by kernel_rfl)) ?_
                        try go_wp2
                        go_ret2
                        exact ⟨by first | rfl | (simp [errW_none, errW_some] <;> rfl) | (simp [*, errW_none, errW_some] <;> rfl), by repeat (first | (with_reducible first | exact HB.out | apply below_alloc | apply pw_below_drewN | apply below_drew1) | exact HB.out)⟩
                      · replace c18 := Bool.eq_false_iff.mpr c18
                        subst c18
                        have H1 : (if t123 = true then (spec_LKMatch.l0 k1 a0 l1 a2 l3 (wrap64 (x10_1 + 1))) else (some (false, t123))) = some (r1, r2) := by rw [if_neg (show ¬ (false = true) by decide)] at H; exact H
                        clear H
                        have H := H1
                        clear H1
                        by_cases c23 : t123 = true
                        · subst c23
                          have H1 : (spec_LKMatch.l0 k1 a0 l1 a2 l3 (wrap64 (x10_1 + 1))) = some (r1, r2) := by rw [if_pos rfl] at H; exact H
                          clear H
                          have H := H1
                          clear H1
                          have H' := Aside0.mk H
                          clear H
                          try go_wp2
                          have n0_ := Aside0.mk (Kd.V_drew HO_1.out)
                          have n1_ := Aside0.mk (below_drew1 HB.out)
                          clear HO_1
                          clear HB
                          have HO_1 := n0_
                          have HB := n1_
                          clear n0_ n1_
                          have q25 : (1 : Int) ≤ ((l1.length : Int) : Int) := of_decide_eq_true (by first | (with_reducible assumption) | assumption)
                          obtain ⟨i025, hi025, _, hsz25, _⟩ := info_parts info21
                          have hroom25 : l1.length ≤ c1 := (Kd.V_reads' HO_1.out).2.1
                          have hC25 : Kd.F (Kd.int .i32) _ _ (some ad109) l1.length l1 := (Kd.V_at (base := w.heap.size) HO_1.out).2.2
                          have hcut25 := cut_from (P := Tryd.prog) 27 21 .i64 Tryd.underlying27 hi025 1 hsz25 (some ad109) l1.length c1 1 (by omega) q25
                          have hr25 := Kd.F_cut (m := (1 : Int).toNat) (c := c1) hC25 (by omega) hroom25
                          obtain ⟨A25, hA25⟩ : ∃ A1, A1 = (if c1 = (1 : Int).toNat then (some ad109) else ((some ad109) : Option Addr).map (·.add ((1 : Int).toNat * 1))) := ⟨_, rfl⟩
                          obtain ⟨c25, hc25⟩ : ∃ zz_, zz_ = c1 - (1 : Int).toNat := ⟨_, rfl⟩
                          have hy25 : y116.length = l1.length - (1 : Int).toNat := (by rw [Ny116.out, List.length_drop] <;> omega)
                          rw [show (l1).drop (1 : Int).toNat = y116 from Ny116.out.symm] at hr25
                          replace hr25 : Kd.F (Kd.int .i32) _ _ A25 y116.length y116 := (by rw [hA25]; exact hr25)
                          rw [← hy25, ← hA25, ← hc25] at hcut25
                          have HO120 := Aside0.mk (show Kd.V (Kd.int .i32) 21 _ w.heap.size _ (.slice A25 y116.length c25) y116 from Kd.V_mk (by rw [hy25, hc25]; exact Nat.sub_le_sub_right hroom25 _) hr25)
                          have HC120 := Aside0.mk (show y116.length ≤ c25 from by rw [hy25, hc25]; exact Nat.sub_le_sub_right hroom25 _)
                          clear hr25 hC25 hroom25 hi025 hsz25 hc25
                          have KY25 := Aside0.mk hy25
                          have KA25 := Aside0.mk hA25
                          clear hy25 hA25
                          replace q25 := eq_true q25
                          obtain ⟨i026, hi026, _, hsz26, _⟩ := info_parts info21
                          obtain ⟨A26, hcut26, hA26, hC26⟩ := print_drop_of (P := Tryd.prog) (Value.int .i32) 0 27 21 .i64 Tryd.underlying27 hi026 hsz26 A3 c3 l3 x10_1 (of_decide_eq_true (by first | (with_reducible assumption) | assumption)) (of_decide_eq_true (by first | (with_reducible assumption) | assumption)) HC3.out
                          have HR121 := Aside0.mk (Kd.C_of_reads (h1 := fun _ => rfl) (hA26 _ (Kd.reads_of_C HR3.out)))
                          have HC121 := Aside0.mk hC26
                          clear hA26 hC26 hi026 hsz26
                          refine start_ (n := 13) (S := fun w' => True) (ds := []) #[false, false, false, false, false, false, false, false, false, false, false, false, false] (by kernel_rfl) rfl rfl trivial (fun hHeld => ?_); refine with_tabW spec_LKMatch.tab11 spec_LKMatch.bits11 (fun HT_ HW_ => ?_)
                          generalize wr.drew = w24 at HO_1 HB HO120 HR121 hHeld ⊢
                          refine pure_ (i := 0) (N := some 40) (v := ?_) (a' := ?_) #[true, false, false, false, false, false, false, false, false, false, false, false, false] rfl rfl (any_of HT_.out (by kernel_rfl)) (fun _ _ _ h => h) (Or.inl ⟨by rfl, ?_⟩) ?_ ?_
                          rotate_left
                          · intro w'
                            go_simp
                            with_reducible rfl
                          rotate_left
                          · simp only [Act.put, List.setIfInBounds_toArray, List.set_cons_zero, List.set_cons_succ, i64_w, i32_w]
                            rfl
                          refine pure_ (i := 1) (N := some 41) (v := ?_) (a' := ?_) #[true, true, false, false, false, false, false, false, false, false, false, false, false] rfl rfl (any_of HT_.out (by kernel_rfl)) (fun _ _ _ h => h) (Or.inl ⟨by rfl, ?_⟩) ?_ ?_
                          rotate_left
                          · intro w'
                            go_simp
                            with_reducible rfl
                          rotate_left
                          · simp only [Act.put, List.setIfInBounds_toArray, List.set_cons_zero, List.set_cons_succ, i64_w, i32_w]
                            rfl
                          refine pure_ (i := 2) (N := some 42) (v := ?_) (a' := ?_) #[true, true, true, false, false, false, false, false, false, false, false, false, false] rfl rfl (any_of HT_.out (by kernel_rfl)) (fun _ _ _ h => h) (Or.inl ⟨by rfl, ?_⟩) ?_ ?_
                          rotate_left
                          · intro w'
                            go_simp
                            with_reducible rfl
                          rotate_left
                          · simp only [Act.put, List.setIfInBounds_toArray, List.set_cons_zero, List.set_cons_succ, i64_w, i32_w]
                            rfl
                          refine pure_ (i := 3) (N := some 43) (v := ?_) (a' := ?_) #[true, true, true, true, false, false, false, false, false, false, false, false, false] rfl rfl (any_of HT_.out (by kernel_rfl)) (fun _ _ _ h => h) (Or.inl ⟨by rfl, ?_⟩) ?_ ?_
                          rotate_left
                          · intro w'
                            go_simp
                            with_reducible rfl
                          rotate_left
                          · simp only [Act.put, List.setIfInBounds_toArray, List.set_cons_zero, List.set_cons_succ, i64_w, i32_w]
                            rfl
                          refine pure_ (i := 4) (N := some 44) (v := ?_) (a' := ?_) #[true, true, true, true, true, false, false, false, false, false, false, false, false] rfl rfl (any_of HT_.out (by kernel_rfl)) (fun _ _ _ h => h) (Or.inl ⟨by rfl, ?_⟩) ?_ ?_
                          rotate_left
                          · intro w'
                            go_simp
                            with_reducible rfl
                          rotate_left
                          · simp only [Act.put, List.setIfInBounds_toArray, List.set_cons_zero, List.set_cons_succ, i64_w, i32_w]
                            rfl
                          refine pure_ (i := 5) (N := some 45) (v := ?_) (a' := ?_) #[true, true, true, true, true, true, false, false, false, false, false, false, false] rfl rfl (any_of HT_.out (by kernel_rfl)) (fun _ _ _ h => h) (Or.inl ⟨by rfl, ?_⟩) ?_ ?_
                          rotate_left
                          · intro w'
                            go_simp
                            with_reducible rfl
                          rotate_left
                          · simp only [Act.put, List.setIfInBounds_toArray, List.set_cons_zero, List.set_cons_succ, i64_w, i32_w]
                            rfl
                          refine pure_ (i := 6) (N := some 46) (v := ?_) (a' := ?_) #[true, true, true, true, true, true, true, false, false, false, false, false, false] rfl rfl (any_of HT_.out (by kernel_rfl)) (fun _ _ _ h => h) (Or.inl ⟨by rfl, ?_⟩) ?_ ?_
                          rotate_left
                          · intro w'
                            go_simp
                            with_reducible rfl
                          rotate_left
                          · simp only [Act.put, List.setIfInBounds_toArray, List.set_cons_zero, List.set_cons_succ, i64_w, i32_w]
                            rfl
                          refine one_ (i := 7) (N := some 47) #[true, true, true, true, true, true, true, true, false, false, false, false, false] rfl rfl (one_of HT_.out (by kernel_rfl)) (by decide) (fun K hK => ?_)
                          refine goes_ Tryd.func13 (by kernel_rfl) rfl #[.bool a0, .slice A25 y116.length c25, .int .i32 a2, .slice A26 (l3.drop (x10_1 : Int).toNat).length (c3 - x10_1.toNat)] (by rfl) rfl rfl (by (try simp only [List.map_toArray, List.map_cons, List.map_nil]); first | done | (rw [show (l3.drop (x10_1 : Int).toNat).length = (l3.length - x10_1.toNat) from List.length_drop] <;> rfl) | rfl | (simp only [List.length_drop, List.length_take]; rfl)) ?_
                          with_reducible refine (ih k1 (by have := HK1.out; omega) a0 (fun k_ => (P1_ k_ ∨ w.heap.size ≤ k_)) _ _ y116 a2 _ _ (l3.drop (x10_1 : Int).toNat) false true _ ?side1 ?side2 ?side3 A17.out).mono ?_
                          (case side1 => exact HO120.out)
                          (case side2 => repeat (first | exact (Kd.C_below HR121.out HB.out) | (with_reducible refine Kd.C_alloc ?_ _) | (with_reducible refine Kd.C_drewN ?_ _) | (with_reducible refine Kd.C_drew ?_)))
                          (case side3 => exact HC121.out)
                          rintro e w27 ⟨rfl, hb⟩
                          refine ⟨_, rfl, ?_⟩
                          have n0_ := Aside0.mk (Kd.V_below (by (with_reducible repeat (first | apply Kd.V_alloc | apply Kd.V_drewN | apply Kd.V_drew)); exact HO_1.out) hb)
                          have n1_ := Aside0.mk (Kd.V_below (by (with_reducible repeat (first | apply Kd.V_alloc | apply Kd.V_drewN | apply Kd.V_drew)); exact HO120.out) hb)
                          have n2_ := Aside0.mk (below_step (by repeat (first | (with_reducible first | exact HB.out | apply below_alloc | apply pw_below_drewN | apply below_drew1) | exact HB.out)) hb)
                          clear HO_1
                          clear HO120
                          clear HB
                          have HO_1 := n0_
                          have HO120 := n1_
                          have HB := n2_
                          clear n0_ n1_ n2_
                          (try clear hb)
                          (try clear hb2)
                          (try clear hk)
                          (try clear hi)
                          refine hK.out _ _ trivial (fun hHeld => ?_)
                          clear hK K
                          refine norm_ (a' := ?_) ?_ ?_
                          rotate_left
                          · show Act.put _ (some 47) _ = _
                            simp only [Act.put, List.setIfInBounds_toArray, List.set_cons_zero, List.set_cons_succ, i64_w, i32_w]
                            rfl
                          refine pure_ (i := 8) (N := some 39) (v := ?_) (a' := ?_) #[true, true, true, true, true, true, true, true, true, false, false, false, false] rfl rfl (any_of HT_.out (by kernel_rfl)) (fun _ _ _ h => h) (Or.inl ⟨by rfl, ?_⟩) ?_ ?_
                          rotate_left
                          · intro w'
                            go_simp
                            with_reducible rfl
                          rotate_left
                          · simp only [Act.put, List.setIfInBounds_toArray, List.set_cons_zero, List.set_cons_succ, i64_w, i32_w]
                            rfl
                          refine pure_ (i := 9) (N := some 48) (v := ?_) (a' := ?_) #[true, true, true, true, true, true, true, true, true, true, false, false, false] rfl rfl (any_of HT_.out (by kernel_rfl)) (fun _ _ _ h => h) (Or.inl ⟨by rfl, ?_⟩) ?_ ?_
                          rotate_left
                          · intro w'
                            go_simp
                            with_reducible rfl
                          rotate_left
                          · simp only [Act.put, List.setIfInBounds_toArray, List.set_cons_zero, List.set_cons_succ, i64_w, i32_w]
                            rfl
                          refine pure_ (i := 10) (N := some 49) (v := ?_) (a' := ?_) #[true, true, true, true, true, true, true, true, true, true, true, false, false] rfl rfl (any_of HT_.out (by kernel_rfl)) (fun _ _ _ h => h) (Or.inl ⟨by rfl, ?_⟩) ?_ ?_
                          rotate_left
                          · intro w'
                            go_simp
                            with_reducible rfl
                          rotate_left
                          · simp only [Act.put, List.setIfInBounds_toArray, List.set_cons_zero, List.set_cons_succ, i64_w, i32_w]
                            rfl
                          refine pure_ (i := 11) (N := some 8) (v := ?_) (a' := ?_) #[true, true, true, true, true, true, true, true, true, true, true, true, false] rfl rfl (any_of HT_.out (by kernel_rfl)) (fun _ _ _ h => h) (Or.inl ⟨by rfl, ?_⟩) ?_ ?_
                          rotate_left
                          · intro w'
                            go_simp
                            with_reducible rfl
                          rotate_left
                          · simp only [Act.put, List.setIfInBounds_toArray, List.set_cons_zero, List.set_cons_succ, i64_w, i32_w]
                            rfl
                          refine pure_ (i := 12) (N := some 9) (v := ?_) (a' := ?_) #[true, true, true, true, true, true, true, true, true, true, true, true, true] rfl rfl (any_of HT_.out (by kernel_rfl)) (fun _ _ _ h => h) (Or.inl ⟨by rfl, ?_⟩) ?_ ?_
                          rotate_left
                          · intro w'
                            go_simp
                            with_reducible rfl
                          rotate_left
                          · simp only [Act.put, List.setIfInBounds_toArray, List.set_cons_zero, List.set_cons_succ, i64_w, i32_w]
                            rfl
                          refine done_ (done_of HT_.out (by kernel_rfl)) ?_
                          try go_wp2
                          go_roundg k1
                          case measure => have := HK1.out; omega
                          case rel => exact ⟨(wrap64 (x10_1 + 1)), (by first | rfl | (simp; done) | (simp [*]; done)), H', ⟨by have := HK1.out; omega⟩, ⟨by (with_reducible repeat (first | apply Kd.V_alloc | apply Kd.V_drewN | apply Kd.V_drew)); exact HO_1.out⟩, ⟨by repeat (first | (with_reducible first | exact HB.out | apply below_alloc | apply pw_below_drewN | apply below_drew1) | exact HB.out)⟩⟩
                        · replace c23 := Bool.eq_false_iff.mpr c23
                          subst c23
                          have H1 : (some (false, false)) = some (r1, r2) := by rw [if_neg (show ¬ (false = true) by decide)] at H; exact H
                          clear H
                          have H := H1
                          clear H1
                          simp only [Option.some.injEq, Prod.mk.injEq] at H
                          obtain ⟨rfl, rfl⟩ := H
                          try go_wp2
                          have n0_ := Aside0.mk (Kd.V_drew HO_1.out)
                          have n1_ := Aside0.mk (below_drew1 HB.out)
                          clear HO_1
                          clear HB
                          have HO_1 := n0_
                          have HB := n1_
                          clear n0_ n1_
                          have q29 : (1 : Int) ≤ ((l1.length : Int) : Int) := of_decide_eq_true (by first | (with_reducible assumption) | assumption)
                          obtain ⟨i029, hi029, _, hsz29, _⟩ := info_parts info21
                          have hroom29 : l1.length ≤ c1 := (Kd.V_reads' HO_1.out).2.1
                          have hC29 : Kd.F (Kd.int .i32) _ _ (some ad109) l1.length l1 := (Kd.V_at (base := w.heap.size) HO_1.out).2.2
                          have hcut29 := cut_from (P := Tryd.prog) 27 21 .i64 Tryd.underlying27 hi029 1 hsz29 (some ad109) l1.length c1 1 (by omega) q29
                          have hr29 := Kd.F_cut (m := (1 : Int).toNat) (c := c1) hC29 (by omega) hroom29
                          obtain ⟨A29, hA29⟩ : ∃ A1, A1 = (if c1 = (1 : Int).toNat then (some ad109) else ((some ad109) : Option Addr).map (·.add ((1 : Int).toNat * 1))) := ⟨_, rfl⟩
                          obtain ⟨c29, hc29⟩ : ∃ zz_, zz_ = c1 - (1 : Int).toNat := ⟨_, rfl⟩
                          have hy29 : y116.length = l1.length - (1 : Int).toNat := (by rw [Ny116.out, List.length_drop] <;> omega)
                          rw [show (l1).drop (1 : Int).toNat = y116 from Ny116.out.symm] at hr29
                          replace hr29 : Kd.F (Kd.int .i32) _ _ A29 y116.length y116 := (by rw [hA29]; exact hr29)
                          rw [← hy29, ← hA29, ← hc29] at hcut29
                          have HO120 := Aside0.mk (show Kd.V (Kd.int .i32) 21 _ w.heap.size _ (.slice A29 y116.length c29) y116 from Kd.V_mk (by rw [hy29, hc29]; exact Nat.sub_le_sub_right hroom29 _) hr29)
                          have HC120 := Aside0.mk (show y116.length ≤ c29 from by rw [hy29, hc29]; exact Nat.sub_le_sub_right hroom29 _)
                          clear hr29 hC29 hroom29 hi029 hsz29 hc29
                          have KY29 := Aside0.mk hy29
                          have KA29 := Aside0.mk hA29
                          clear hy29 hA29
                          replace q29 := eq_true q29
                          obtain ⟨i030, hi030, _, hsz30, _⟩ := info_parts info21
                          obtain ⟨A30, hcut30, hA30, hC30⟩ := print_drop_of (P := Tryd.prog) (Value.int .i32) 0 27 21 .i64 Tryd.underlying27 hi030 hsz30 A3 c3 l3 x10_1 (of_decide_eq_true (by first | (with_reducible assumption) | assumption)) (of_decide_eq_true (by first | (with_reducible assumption) | assumption)) HC3.out
                          have HR121 := Aside0.mk (Kd.C_of_reads (h1 := fun _ => rfl) (hA30 _ (Kd.reads_of_C HR3.out)))
                          have HC121 := Aside0.mk hC30
                          clear hA30 hC30 hi030 hsz30
                          refine start_ (n := 13) (S := fun w' => True) (ds := []) #[false, false, false, false, false, false, false, false, false, false, false, false, false] (by kernel_rfl) rfl rfl trivial (fun hHeld => ?_); refine with_tabW spec_LKMatch.tab11 spec_LKMatch.bits11 (fun HT_ HW_ => ?_)
                          generalize wr.drew = w28 at HO_1 HB HO120 HR121 hHeld ⊢
                          refine pure_ (i := 0) (N := some 40) (v := ?_) (a' := ?_) #[true, false, false, false, false, false, false, false, false, false, false, false, false] rfl rfl (any_of HT_.out (by kernel_rfl)) (fun _ _ _ h => h) (Or.inl ⟨by rfl, ?_⟩) ?_ ?_
                          rotate_left
                          · intro w'
                            go_simp
                            with_reducible rfl
                          rotate_left
                          · simp only [Act.put, List.setIfInBounds_toArray, List.set_cons_zero, List.set_cons_succ, i64_w, i32_w]
                            rfl
                          refine pure_ (i := 1) (N := some 41) (v := ?_) (a' := ?_) #[true, true, false, false, false, false, false, false, false, false, false, false, false] rfl rfl (any_of HT_.out (by kernel_rfl)) (fun _ _ _ h => h) (Or.inl ⟨by rfl, ?_⟩) ?_ ?_
                          rotate_left
                          · intro w'
                            go_simp
                            with_reducible rfl
                          rotate_left
                          · simp only [Act.put, List.setIfInBounds_toArray, List.set_cons_zero, List.set_cons_succ, i64_w, i32_w]
                            rfl
                          refine pure_ (i := 2) (N := some 42) (v := ?_) (a' := ?_) #[true, true, true, false, false, false, false, false, false, false, false, false, false] rfl rfl (any_of HT_.out (by kernel_rfl)) (fun _ _ _ h => h) (Or.inl ⟨by rfl, ?_⟩) ?_ ?_
                          rotate_left
                          · intro w'
                            go_simp
                            with_reducible rfl
                          rotate_left
                          · simp only [Act.put, List.setIfInBounds_toArray, List.set_cons_zero, List.set_cons_succ, i64_w, i32_w]
                            rfl
                          refine pure_ (i := 3) (N := some 43) (v := ?_) (a' := ?_) #[true, true, true, true, false, false, false, false, false, false, false, false, false] rfl rfl (any_of HT_.out (by kernel_rfl)) (fun _ _ _ h => h) (Or.inl ⟨by rfl, ?_⟩) ?_ ?_
                          rotate_left
                          · intro w'
                            go_simp
                            with_reducible rfl
                          rotate_left
                          · simp only [Act.put, List.setIfInBounds_toArray, List.set_cons_zero, List.set_cons_succ, i64_w, i32_w]
                            rfl
                          refine pure_ (i := 4) (N := some 44) (v := ?_) (a' := ?_) #[true, true, true, true, true, false, false, false, false, false, false, false, false] rfl rfl (any_of HT_.out (by kernel_rfl)) (fun _ _ _ h => h) (Or.inl ⟨by rfl, ?_⟩) ?_ ?_
                          rotate_left
                          · intro w'
                            go_simp
                            with_reducible rfl
                          rotate_left
                          · simp only [Act.put, List.setIfInBounds_toArray, List.set_cons_zero, List.set_cons_succ, i64_w, i32_w]
                            rfl
                          refine pure_ (i := 5) (N := some 45) (v := ?_) (a' := ?_) #[true, true, true, true, true, true, false, false, false, false, false, false, false] rfl rfl (any_of HT_.out (by kernel_rfl)) (fun _ _ _ h => h) (Or.inl ⟨by rfl, ?_⟩) ?_ ?_
                          rotate_left
                          · intro w'
                            go_simp
                            with_reducible rfl
                          rotate_left
                          · simp only [Act.put, List.setIfInBounds_toArray, List.set_cons_zero, List.set_cons_succ, i64_w, i32_w]
                            rfl
                          refine pure_ (i := 6) (N := some 46) (v := ?_) (a' := ?_) #[true, true, true, true, true, true, true, false, false, false, false, false, false] rfl rfl (any_of HT_.out (by kernel_rfl)) (fun _ _ _ h => h) (Or.inl ⟨by rfl, ?_⟩) ?_ ?_
                          rotate_left
                          · intro w'
                            go_simp
                            with_reducible rfl
                          rotate_left
                          · simp only [Act.put, List.setIfInBounds_toArray, List.set_cons_zero, List.set_cons_succ, i64_w, i32_w]
                            rfl
                          refine one_ (i := 7) (N := some 47) #[true, true, true, true, true, true, true, true, false, false, false, false, false] rfl rfl (one_of HT_.out (by kernel_rfl)) (by decide) (fun K hK => ?_)
                          refine goes_ Tryd.func13 (by kernel_rfl) rfl #[.bool a0, .slice A29 y116.length c29, .int .i32 a2, .slice A30 (l3.drop (x10_1 : Int).toNat).length (c3 - x10_1.toNat)] (by rfl) rfl rfl (by (try simp only [List.map_toArray, List.map_cons, List.map_nil]); first | done | (rw [show (l3.drop (x10_1 : Int).toNat).length = (l3.length - x10_1.toNat) from List.length_drop] <;> rfl) | rfl | (simp only [List.length_drop, List.length_take]; rfl)) ?_
                          with_reducible refine (ih k1 (by have := HK1.out; omega) a0 (fun k_ => (P1_ k_ ∨ w.heap.size ≤ k_)) _ _ y116 a2 _ _ (l3.drop (x10_1 : Int).toNat) false false _ ?side1 ?side2 ?side3 A17.out).mono ?_
                          (case side1 => exact HO120.out)
                          (case side2 => repeat (first | exact (Kd.C_below HR121.out HB.out) | (with_reducible refine Kd.C_alloc ?_ _) | (with_reducible refine Kd.C_drewN ?_ _) | (with_reducible refine Kd.C_drew ?_)))
                          (case side3 => exact HC121.out)
                          rintro e w31 ⟨rfl, hb⟩
                          refine ⟨_, rfl, ?_⟩
                          have n0_ := Aside0.mk (Kd.V_below (by (with_reducible repeat (first | apply Kd.V_alloc | apply Kd.V_drewN | apply Kd.V_drew)); exact HO_1.out) hb)
                          have n1_ := Aside0.mk (Kd.V_below (by (with_reducible repeat (first | apply Kd.V_alloc | apply Kd.V_drewN | apply Kd.V_drew)); exact HO120.out) hb)
                          have n2_ := Aside0.mk (below_step (by repeat (first | (with_reducible first | exact HB.out | apply below_alloc | apply pw_below_drewN | apply below_drew1) | exact HB.out)) hb)
                          clear HO_1
                          clear HO120
                          clear HB
                          have HO_1 := n0_
                          have HO120 := n1_
                          have HB := n2_
                          clear n0_ n1_ n2_
                          (try clear hb)
                          (try clear hb2)
                          (try clear hk)
                          (try clear hi)
                          refine hK.out _ _ trivial (fun hHeld => ?_)
                          clear hK K
                          refine norm_ (a' := ?_) ?_ ?_
                          rotate_left
                          · show Act.put _ (some 47) _ = _
                            simp only [Act.put, List.setIfInBounds_toArray, List.set_cons_zero, List.set_cons_succ, i64_w, i32_w]
                            rfl
                          refine pure_ (i := 8) (N := some 39) (v := ?_) (a' := ?_) #[true, true, true, true, true, true, true, true, true, false, false, false, false] rfl rfl (any_of HT_.out (by kernel_rfl)) (fun _ _ _ h => h) (Or.inl ⟨by rfl, ?_⟩) ?_ ?_
                          rotate_left
                          · intro w'
                            go_simp
                            with_reducible rfl
                          rotate_left
                          · simp only [Act.put, List.setIfInBounds_toArray, List.set_cons_zero, List.set_cons_succ, i64_w, i32_w]
                            rfl
                          refine pure_ (i := 9) (N := some 48) (v := ?_) (a' := ?_) #[true, true, true, true, true, true, true, true, true, true, false, false, false] rfl rfl (any_of HT_.out (by kernel_rfl)) (fun _ _ _ h => h) (Or.inl ⟨by rfl, ?_⟩) ?_ ?_
                          rotate_left
                          · intro w'
                            go_simp
                            with_reducible rfl
                          rotate_left
                          · simp only [Act.put, List.setIfInBounds_toArray, List.set_cons_zero, List.set_cons_succ, i64_w, i32_w]
                            rfl
                          refine pure_ (i := 10) (N := some 49) (v := ?_) (a' := ?_) #[true, true, true, true, true, true, true, true, true, true, true, false, false] rfl rfl (any_of HT_.out (by kernel_rfl)) (fun _ _ _ h => h) (Or.inl ⟨by rfl, ?_⟩) ?_ ?_
                          rotate_left
                          · intro w'
                            go_simp
                            with_reducible rfl
                          rotate_left
                          · simp only [Act.put, List.setIfInBounds_toArray, List.set_cons_zero, List.set_cons_succ, i64_w, i32_w]
                            rfl
                          refine pure_ (i := 11) (N := some 8) (v := ?_) (a' := ?_) #[true, true, true, true, true, true, true, true, true, true, true, true, false] rfl rfl (any_of HT_.out (by kernel_rfl)) (fun _ _ _ h => h) (Or.inl ⟨by rfl, ?_⟩) ?_ ?_
                          rotate_left
                          · intro w'
                            go_simp
                            with_reducible rfl
                          rotate_left
                          · simp only [Act.put, List.setIfInBounds_toArray, List.set_cons_zero, List.set_cons_succ, i64_w, i32_w]
                            rfl
                          refine pure_ (i := 12) (N := some 9) (v := ?_) (a' := ?_) #[true, true, true, true, true, true, true, true, true, true, true, true, true] rfl rfl (any_of HT_.out (by kernel_rfl)) (fun _ _ _ h => h) (Or.inl ⟨by rfl, ?_⟩) ?_ ?_
                          rotate_left
                          · intro w'
                            go_simp
                            with_reducible rfl
                          rotate_left
                          · simp only [Act.put, List.setIfInBounds_toArray, List.set_cons_zero, List.set_cons_succ, i64_w, i32_w]
                            rfl
                          refine done_ (done_of HT_.out (by kernel_rfl)) ?_
                          try go_wp2
                          go_ret2
                          exact ⟨by first | rfl | (simp [errW_none, errW_some] <;> rfl) | (simp [*, errW_none, errW_some] <;> rfl), by repeat (first | (with_reducible first | exact HB.out | apply below_alloc | apply pw_below_drewN | apply below_drew1) | exact HB.out)⟩
                    · rw [if_neg c15] at H
                      exact absurd H (by simp)
                  · rw [if_neg c14] at H
                    exact absurd H (by simp)
                · rw [if_neg c13] at H
                  have c13b0 : decide (x10_1 ≤ (l3.length : Int)) = false := decide_eq_false c13
                  clear c13
                  simp only [Option.some.injEq, Prod.mk.injEq] at H
                  obtain ⟨rfl, rfl⟩ := H
                  go_wp2
                  go_ret2
                  exact ⟨by first | rfl | (simp [errW_none, errW_some] <;> rfl) | (simp [*, errW_none, errW_some] <;> rfl), by repeat (first | (with_reducible first | exact HB.out | apply below_alloc | apply pw_below_drewN | apply below_drew1) | exact HB.out)⟩
          · rw [if_neg c12] at H
            have c12b0 : ((rd l1 0) == 37) = false := beq_eq_false_iff_ne.mpr c12
            have c12b1 : ((rd l1 0) != 37) = true := bne_iff_ne.mpr c12
            by_cases c32 : (rd l1 0) = 95
            · rw [if_pos c32] at H
              have c32b0 : ((rd l1 0) == 95) = true := beq_iff_eq.mpr c32
              have c32b1 : ((rd l1 0) != 95) = false := bne_eq_false_iff_eq.mpr c32
              clear c32
              by_cases c33 : (l3.length : Int) = 0
              · rw [if_pos c33] at H
                have c33b0 : ((l3.length : Int) == 0) = true := beq_iff_eq.mpr c33
                have c33b1 : ((l3.length : Int) != 0) = false := bne_eq_false_iff_eq.mpr c33
                clear c33
                by_cases c34 : 1 ≤ (l1.length : Int)
                · rw [if_pos c34] at H
                  have c34b0 := eq_true c34
                  have c34b1 : decide (1 ≤ (l1.length : Int)) = true := decide_eq_true c34
                  clear c34
                  obtain ⟨y125, hy125⟩ : ∃ y_ : List Int, y_ = (l1.drop 1) := ⟨_, rfl⟩
                  replace H : ((spec_LKMatch.f k a0 y125 a2 l3).bind fun bt130 => (some (false, bt130.2))) = some (r1, r2) := by first | (rw [hy125]; with_reducible exact H) | (have H2_ := (Option.bind_some _ _).symm.trans H; rw [hy125]; with_reducible exact H2_) | (have H2_ := (Option.bind_some _ _).symm.trans H; with_reducible exact H2_) | with_reducible exact H | (rw [hy125]; exact H) | exact H
                  have Ny125 := Aside0.mk hy125
                  clear hy125
                  replace H := Option.bind_eq_some_iff.mp H
                  obtain ⟨⟨t130, t131⟩, A350, H⟩ := H
                  replace H : (some (false, t131)) = some (r1, r2) := H
                  have A35 := Aside0.mk A350
                  clear A350
                  simp only [Option.some.injEq, Prod.mk.injEq] at H
                  obtain ⟨rfl, rfl⟩ := H
                  have p109 : 0 ≤ (0 : Int) := (by omega)
                  have q109 : 0 < (l1.length : Int) := of_decide_eq_true (by first | (with_reducible assumption) | assumption)
                  obtain ⟨ad109, e109, hx109_0⟩ := Kd.at_int (Kd.V_reads' HO1.out).2.2 0 p109 q109
                  cases e109
                  have qi109 : (0 < l1.length) = True := eq_true (by omega)
                  (try rw [show ((0 : Int)).toNat = 0 from rfl] at hx109_0)
                  (try rw [Addr.add_zero'] at hx109_0)
                  replace p109 := eq_true p109
                  replace q109 := eq_true q109
                  have p115 : 0 ≤ (0 : Int) := (by omega)
                  have q115 : 0 < (l1.length : Int) := of_decide_eq_true (by first | (with_reducible assumption) | assumption)
                  obtain ⟨ad115, e115, hx115_0⟩ := Kd.at_int (Kd.V_reads' HO1.out).2.2 0 p115 q115
                  obtain rfl : ad109 = ad115 := (by injection e115)
                  have qi115 : (0 < l1.length) = True := eq_true (by omega)
                  (try rw [show ((0 : Int)).toNat = 0 from rfl] at hx115_0)
                  (try rw [Addr.add_zero'] at hx115_0)
                  replace p115 := eq_true p115
                  replace q115 := eq_true q115
                  have p124 : 0 ≤ (0 : Int) := (by omega)
                  have q124 : 0 < (l1.length : Int) := of_decide_eq_true (by first | (with_reducible assumption) | assumption)
                  obtain ⟨ad124, e124, hx124_0⟩ := Kd.at_int (Kd.V_reads' HO1.out).2.2 0 p124 q124
                  obtain rfl : ad109 = ad124 := (by injection e124)
                  have qi124 : (0 < l1.length) = True := eq_true (by omega)
                  (try rw [show ((0 : Int)).toNat = 0 from rfl] at hx124_0)
                  (try rw [Addr.add_zero'] at hx124_0)
                  replace p124 := eq_true p124
                  replace q124 := eq_true q124
                  have q36 : (1 : Int) ≤ ((l1.length : Int) : Int) := of_decide_eq_true (by first | (with_reducible assumption) | assumption)
                  obtain ⟨i036, hi036, _, hsz36, _⟩ := info_parts info21
                  have hroom36 : l1.length ≤ c1 := (Kd.V_reads' HO1.out).2.1
                  have hC36 : Kd.F (Kd.int .i32) _ _ (some ad109) l1.length l1 := (Kd.V_at (base := w.heap.size) HO1.out).2.2
                  have hcut36 := cut_from (P := Tryd.prog) 27 21 .i64 Tryd.underlying27 hi036 1 hsz36 (some ad109) l1.length c1 1 (by omega) q36
                  have hr36 := Kd.F_cut (m := (1 : Int).toNat) (c := c1) hC36 (by omega) hroom36
                  obtain ⟨A36, hA36⟩ : ∃ A1, A1 = (if c1 = (1 : Int).toNat then (some ad109) else ((some ad109) : Option Addr).map (·.add ((1 : Int).toNat * 1))) := ⟨_, rfl⟩
                  obtain ⟨c36, hc36⟩ : ∃ zz_, zz_ = c1 - (1 : Int).toNat := ⟨_, rfl⟩
                  have hy36 : y125.length = l1.length - (1 : Int).toNat := (by rw [Ny125.out, List.length_drop] <;> omega)
                  rw [show (l1).drop (1 : Int).toNat = y125 from Ny125.out.symm] at hr36
                  replace hr36 : Kd.F (Kd.int .i32) _ _ A36 y125.length y125 := (by rw [hA36]; exact hr36)
                  rw [← hy36, ← hA36, ← hc36] at hcut36
                  have HO129 := Aside0.mk (show Kd.V (Kd.int .i32) 21 _ w.heap.size _ (.slice A36 y125.length c36) y125 from Kd.V_mk (by rw [hy36, hc36]; exact Nat.sub_le_sub_right hroom36 _) hr36)
                  have HC129 := Aside0.mk (show y125.length ≤ c36 from by rw [hy36, hc36]; exact Nat.sub_le_sub_right hroom36 _)
                  clear hr36 hC36 hroom36 hi036 hsz36 hc36
                  have KY36 := Aside0.mk hy36
                  have KA36 := Aside0.mk hA36
                  clear hy36 hA36
                  replace q36 := eq_true q36
                  go_wp2_with (first | ((with_reducible refine gate_callee (f := 13) rfl ?_); refine goesL_ (some 71) rfl rfl Tryd.func13 (by kernel_rfl) rfl #[.bool a0, .slice A36 y125.length c36, .int .i32 a2, .slice A3 l3.length c3] rfl (by (try simp only [List.map_toArray, List.map_cons, List.map_nil]); first | done | rfl | (simp only [List.length_drop, List.length_take]; rfl)) ?_; (with_reducible refine (ih k (by omega) a0 (fun k_ => (P1_ k_ ∨ w.heap.size ≤ k_)) _ _ y125 a2 _ _ l3 t130 t131 _ ?side1 ?side2 ?side3 A35.out).mono ?_); (case side1 => exact HO129.out); (case side2 => repeat (first | exact (Kd.C_below HR3.out HB.out) | (with_reducible refine Kd.C_alloc ?_ _) | (with_reducible refine Kd.C_drewN ?_ _) | (with_reducible refine Kd.C_drew ?_))); (case side3 => exact HC3.out); rintro e w37 ⟨rfl, hb⟩; refine ⟨_, rfl, ?_⟩; have n0_ := Aside0.mk (Kd.V_below (by (with_reducible repeat (first | apply Kd.V_alloc | apply Kd.V_drewN | apply Kd.V_drew)); exact HO1.out) hb); have n1_ := Aside0.mk (Kd.V_below (by (with_reducible repeat (first | apply Kd.V_alloc | apply Kd.V_drewN | apply Kd.V_drew)); exact HO129.out) hb); have n2_ := Aside0.mk (below_step (by repeat (first | (with_reducible first | exact HB.out | apply below_alloc | apply pw_below_drewN | apply below_drew1) | exact HB.out)) hb); clear HO1; clear HO129; clear HB; have HO1 := n0_; have HO129 := n1_; have HB := n2_; clear n0_ n1_ n2_; (try clear hb); (try clear hb2); (try clear hk); (try clear hi)))
                  go_ret2
                  exact ⟨by first | rfl | (simp [errW_none, errW_some] <;> rfl) | (simp [*, errW_none, errW_some] <;> rfl), by repeat (first | (with_reducible first | exact HB.out | apply below_alloc | apply pw_below_drewN | apply below_drew1) | exact HB.out)⟩
                · rw [if_neg c34] at H
                  exact absurd H (by simp)
              · rw [if_neg c33] at H
                have c33b0 : ((l3.length : Int) == 0) = false := beq_eq_false_iff_ne.mpr c33
                have c33b1 : ((l3.length : Int) != 0) = true := bne_iff_ne.mpr c33
                have c33b2 : ¬ (l3 = []) := fun h_ => c33 (by rw [h_]; rfl)
                by_cases c38 : 1 ≤ (l1.length : Int)
                · rw [if_pos c38] at H
                  have c38b0 := eq_true c38
                  have c38b1 : decide (1 ≤ (l1.length : Int)) = true := decide_eq_true c38
                  clear c38
                  obtain ⟨y132, hy132⟩ : ∃ y_ : List Int, y_ = (l1.drop 1) := ⟨_, rfl⟩
                  replace H : (if 1 ≤ (l3.length : Int) then ((spec_LKMatch.f k a0 y132 a2 (l3.drop 1)).bind fun bt138 => (some (bt138.1, bt138.2))) else (none)) = some (r1, r2) := by first | (rw [hy132]; with_reducible exact H) | (have H2_ := (Option.bind_some _ _).symm.trans H; rw [hy132]; with_reducible exact H2_) | (have H2_ := (Option.bind_some _ _).symm.trans H; with_reducible exact H2_) | with_reducible exact H | (rw [hy132]; exact H) | exact H
                  have Ny132 := Aside0.mk hy132
                  clear hy132
                  by_cases c39 : 1 ≤ (l3.length : Int)
                  · rw [if_pos c39] at H
                    have c39b0 := eq_true c39
                    have c39b1 : decide (1 ≤ (l3.length : Int)) = true := decide_eq_true c39
                    clear c39
                    replace H := Option.bind_eq_some_iff.mp H
                    obtain ⟨⟨t138, t139⟩, A400, H⟩ := H
                    replace H : (some (t138, t139)) = some (r1, r2) := H
                    have A40 := Aside0.mk A400
                    clear A400
                    simp only [Option.some.injEq, Prod.mk.injEq] at H
                    obtain ⟨rfl, rfl⟩ := H
                    have p109 : 0 ≤ (0 : Int) := (by omega)
                    have q109 : 0 < (l1.length : Int) := of_decide_eq_true (by first | (with_reducible assumption) | assumption)
                    obtain ⟨ad109, e109, hx109_0⟩ := Kd.at_int (Kd.V_reads' HO1.out).2.2 0 p109 q109
                    cases e109
                    have qi109 : (0 < l1.length) = True := eq_true (by omega)
                    (try rw [show ((0 : Int)).toNat = 0 from rfl] at hx109_0)
                    (try rw [Addr.add_zero'] at hx109_0)
                    replace p109 := eq_true p109
                    replace q109 := eq_true q109
                    have p115 : 0 ≤ (0 : Int) := (by omega)
                    have q115 : 0 < (l1.length : Int) := of_decide_eq_true (by first | (with_reducible assumption) | assumption)
                    obtain ⟨ad115, e115, hx115_0⟩ := Kd.at_int (Kd.V_reads' HO1.out).2.2 0 p115 q115
                    obtain rfl : ad109 = ad115 := (by injection e115)
                    have qi115 : (0 < l1.length) = True := eq_true (by omega)
                    (try rw [show ((0 : Int)).toNat = 0 from rfl] at hx115_0)
                    (try rw [Addr.add_zero'] at hx115_0)
                    replace p115 := eq_true p115
                    replace q115 := eq_true q115
                    have p124 : 0 ≤ (0 : Int) := (by omega)
                    have q124 : 0 < (l1.length : Int) := of_decide_eq_true (by first | (with_reducible assumption) | assumption)
                    obtain ⟨ad124, e124, hx124_0⟩ := Kd.at_int (Kd.V_reads' HO1.out).2.2 0 p124 q124
                    obtain rfl : ad109 = ad124 := (by injection e124)
                    have qi124 : (0 < l1.length) = True := eq_true (by omega)
                    (try rw [show ((0 : Int)).toNat = 0 from rfl] at hx124_0)
                    (try rw [Addr.add_zero'] at hx124_0)
                    replace p124 := eq_true p124
                    replace q124 := eq_true q124
                    try go_wp2
                    have n0_ := Aside0.mk (Kd.V_drew HO1.out)
                    have n1_ := Aside0.mk (below_drew1 HB.out)
                    clear HO1
                    clear HB
                    have HO1 := n0_
                    have HB := n1_
                    clear n0_ n1_
                    have q42 : (1 : Int) ≤ ((l1.length : Int) : Int) := of_decide_eq_true (by first | (with_reducible assumption) | assumption)
                    obtain ⟨i042, hi042, _, hsz42, _⟩ := info_parts info21
                    have hroom42 : l1.length ≤ c1 := (Kd.V_reads' HO1.out).2.1
                    have hC42 : Kd.F (Kd.int .i32) _ _ (some ad109) l1.length l1 := (Kd.V_at (base := w.heap.size) HO1.out).2.2
                    have hcut42 := cut_from (P := Tryd.prog) 27 21 .i64 Tryd.underlying27 hi042 1 hsz42 (some ad109) l1.length c1 1 (by omega) q42
                    have hr42 := Kd.F_cut (m := (1 : Int).toNat) (c := c1) hC42 (by omega) hroom42
                    obtain ⟨A42, hA42⟩ : ∃ A1, A1 = (if c1 = (1 : Int).toNat then (some ad109) else ((some ad109) : Option Addr).map (·.add ((1 : Int).toNat * 1))) := ⟨_, rfl⟩
                    obtain ⟨c42, hc42⟩ : ∃ zz_, zz_ = c1 - (1 : Int).toNat := ⟨_, rfl⟩
                    have hy42 : y132.length = l1.length - (1 : Int).toNat := (by rw [Ny132.out, List.length_drop] <;> omega)
                    rw [show (l1).drop (1 : Int).toNat = y132 from Ny132.out.symm] at hr42
                    replace hr42 : Kd.F (Kd.int .i32) _ _ A42 y132.length y132 := (by rw [hA42]; exact hr42)
                    rw [← hy42, ← hA42, ← hc42] at hcut42
                    have HO136 := Aside0.mk (show Kd.V (Kd.int .i32) 21 _ w.heap.size _ (.slice A42 y132.length c42) y132 from Kd.V_mk (by rw [hy42, hc42]; exact Nat.sub_le_sub_right hroom42 _) hr42)
                    have HC136 := Aside0.mk (show y132.length ≤ c42 from by rw [hy42, hc42]; exact Nat.sub_le_sub_right hroom42 _)
                    clear hr42 hC42 hroom42 hi042 hsz42 hc42
                    have KY42 := Aside0.mk hy42
                    have KA42 := Aside0.mk hA42
                    clear hy42 hA42
                    replace q42 := eq_true q42
                    obtain ⟨i043, hi043, _, hsz43, _⟩ := info_parts info21
                    obtain ⟨A43, hcut43, hA43, hC43⟩ := print_drop_of (P := Tryd.prog) (Value.int .i32) 0 27 21 .i64 Tryd.underlying27 hi043 hsz43 A3 c3 l3 1 (by omega) (of_decide_eq_true (by first | (with_reducible assumption) | assumption)) HC3.out
                    have HR137 := Aside0.mk (Kd.C_of_reads (h1 := fun _ => rfl) (hA43 _ (Kd.reads_of_C HR3.out)))
                    have HC137 := Aside0.mk hC43
                    clear hA43 hC43 hi043 hsz43
                    refine start_ (n := 11) (S := fun w' => True) (ds := []) #[false, false, false, false, false, false, false, false, false, false, false] (by kernel_rfl) rfl rfl trivial (fun hHeld => ?_); refine with_tabW spec_LKMatch.tab19 spec_LKMatch.bits19 (fun HT_ HW_ => ?_)
                    generalize w.drew = w41 at HO1 HB HO136 HR137 hHeld ⊢
                    refine pure_ (i := 0) (N := some 75) (v := ?_) (a' := ?_) #[true, false, false, false, false, false, false, false, false, false, false] rfl rfl (any_of HT_.out (by kernel_rfl)) (fun _ _ _ h => h) (Or.inl ⟨by rfl, ?_⟩) ?_ ?_
                    rotate_left
                    · intro w'
                      go_simp
                      with_reducible rfl
                    rotate_left
                    · simp only [Act.put, List.setIfInBounds_toArray, List.set_cons_zero, List.set_cons_succ, i64_w, i32_w]
                      rfl
                    refine pure_ (i := 1) (N := some 76) (v := ?_) (a' := ?_) #[true, true, false, false, false, false, false, false, false, false, false] rfl rfl (any_of HT_.out (by kernel_rfl)) (fun _ _ _ h => h) (Or.inl ⟨by rfl, ?_⟩) ?_ ?_
                    rotate_left
                    · intro w'
                      go_simp
                      with_reducible rfl
                    rotate_left
                    · simp only [Act.put, List.setIfInBounds_toArray, List.set_cons_zero, List.set_cons_succ, i64_w, i32_w]
                      rfl
                    refine pure_ (i := 2) (N := some 77) (v := ?_) (a' := ?_) #[true, true, true, false, false, false, false, false, false, false, false] rfl rfl (any_of HT_.out (by kernel_rfl)) (fun _ _ _ h => h) (Or.inl ⟨by rfl, ?_⟩) ?_ ?_
                    rotate_left
                    · intro w'
                      go_simp
                      with_reducible rfl
                    rotate_left
                    · simp only [Act.put, List.setIfInBounds_toArray, List.set_cons_zero, List.set_cons_succ, i64_w, i32_w]
                      rfl
                    refine pure_ (i := 3) (N := some 78) (v := ?_) (a' := ?_) #[true, true, true, true, false, false, false, false, false, false, false] rfl rfl (any_of HT_.out (by kernel_rfl)) (fun _ _ _ h => h) (Or.inl ⟨by rfl, ?_⟩) ?_ ?_
                    rotate_left
                    · intro w'
                      go_simp
                      with_reducible rfl
                    rotate_left
                    · simp only [Act.put, List.setIfInBounds_toArray, List.set_cons_zero, List.set_cons_succ, i64_w, i32_w]
                      rfl
                    refine pure_ (i := 4) (N := some 79) (v := ?_) (a' := ?_) #[true, true, true, true, true, false, false, false, false, false, false] rfl rfl (any_of HT_.out (by kernel_rfl)) (fun _ _ _ h => h) (Or.inl ⟨by rfl, ?_⟩) ?_ ?_
                    rotate_left
                    · intro w'
                      go_simp
                      with_reducible rfl
                    rotate_left
                    · simp only [Act.put, List.setIfInBounds_toArray, List.set_cons_zero, List.set_cons_succ, i64_w, i32_w]
                      rfl
                    refine pure_ (i := 5) (N := some 80) (v := ?_) (a' := ?_) #[true, true, true, true, true, true, false, false, false, false, false] rfl rfl (any_of HT_.out (by kernel_rfl)) (fun _ _ _ h => h) (Or.inl ⟨by rfl, ?_⟩) ?_ ?_
                    rotate_left
                    · intro w'
                      go_simp
                      with_reducible rfl
                    rotate_left
                    · simp only [Act.put, List.setIfInBounds_toArray, List.set_cons_zero, List.set_cons_succ, i64_w, i32_w]
                      rfl
                    refine one_ (i := 6) (N := some 81) #[true, true, true, true, true, true, true, false, false, false, false] rfl rfl (one_of HT_.out (by kernel_rfl)) (by decide) (fun K hK => ?_)
                    refine goes_ Tryd.func13 (by kernel_rfl) rfl #[.bool a0, .slice A42 y132.length c42, .int .i32 a2, .slice A43 (l3.drop 1).length (c3 - 1)] (by rfl) rfl rfl (by (try simp only [List.map_toArray, List.map_cons, List.map_nil]); first | done | (rw [show (l3.drop 1).length = (l3.length - 1) from List.length_drop] <;> rfl) | rfl | (simp only [List.length_drop, List.length_take]; rfl)) ?_
                    with_reducible refine (ih k (by omega) a0 (fun k_ => (P1_ k_ ∨ w.heap.size ≤ k_)) _ _ y132 a2 _ _ (l3.drop 1) t138 t139 _ ?side1 ?side2 ?side3 A40.out).mono ?_
                    (case side1 => exact HO136.out)
                    (case side2 => repeat (first | exact (Kd.C_below HR137.out HB.out) | (with_reducible refine Kd.C_alloc ?_ _) | (with_reducible refine Kd.C_drewN ?_ _) | (with_reducible refine Kd.C_drew ?_)))
                    (case side3 => exact HC137.out)
                    rintro e w44 ⟨rfl, hb⟩
                    refine ⟨_, rfl, ?_⟩
                    have n0_ := Aside0.mk (Kd.V_below (by (with_reducible repeat (first | apply Kd.V_alloc | apply Kd.V_drewN | apply Kd.V_drew)); exact HO1.out) hb)
                    have n1_ := Aside0.mk (Kd.V_below (by (with_reducible repeat (first | apply Kd.V_alloc | apply Kd.V_drewN | apply Kd.V_drew)); exact HO136.out) hb)
                    have n2_ := Aside0.mk (below_step (by repeat (first | (with_reducible first | exact HB.out | apply below_alloc | apply pw_below_drewN | apply below_drew1) | exact HB.out)) hb)
                    clear HO1
                    clear HO136
                    clear HB
                    have HO1 := n0_
                    have HO136 := n1_
                    have HB := n2_
                    clear n0_ n1_ n2_
                    (try clear hb)
                    (try clear hb2)
                    (try clear hk)
                    (try clear hi)
                    refine hK.out _ _ trivial (fun hHeld => ?_)
                    clear hK K
                    refine norm_ (a' := ?_) ?_ ?_
                    rotate_left
                    · show Act.put _ (some 81) _ = _
                      simp only [Act.put, List.setIfInBounds_toArray, List.set_cons_zero, List.set_cons_succ, i64_w, i32_w]
                      rfl
                    refine pure_ (i := 7) (N := some 82) (v := ?_) (a' := ?_) #[true, true, true, true, true, true, true, true, false, false, false] rfl rfl (any_of HT_.out (by kernel_rfl)) (fun _ _ _ h => h) (Or.inl ⟨by rfl, ?_⟩) ?_ ?_
                    rotate_left
                    · intro w'
                      go_simp
                      with_reducible rfl
                    rotate_left
                    · simp only [Act.put, List.setIfInBounds_toArray, List.set_cons_zero, List.set_cons_succ, i64_w, i32_w]
                      rfl
                    refine pure_ (i := 8) (N := some 83) (v := ?_) (a' := ?_) #[true, true, true, true, true, true, true, true, true, false, false] rfl rfl (any_of HT_.out (by kernel_rfl)) (fun _ _ _ h => h) (Or.inl ⟨by rfl, ?_⟩) ?_ ?_
                    rotate_left
                    · intro w'
                      go_simp
                      with_reducible rfl
                    rotate_left
                    · simp only [Act.put, List.setIfInBounds_toArray, List.set_cons_zero, List.set_cons_succ, i64_w, i32_w]
                      rfl
                    refine pure_ (i := 9) (N := some 8) (v := ?_) (a' := ?_) #[true, true, true, true, true, true, true, true, true, true, false] rfl rfl (any_of HT_.out (by kernel_rfl)) (fun _ _ _ h => h) (Or.inl ⟨by rfl, ?_⟩) ?_ ?_
                    rotate_left
                    · intro w'
                      go_simp
                      with_reducible rfl
                    rotate_left
                    · simp only [Act.put, List.setIfInBounds_toArray, List.set_cons_zero, List.set_cons_succ, i64_w, i32_w]
                      rfl
                    refine pure_ (i := 10) (N := some 9) (v := ?_) (a' := ?_) #[true, true, true, true, true, true, true, true, true, true, true] rfl rfl (any_of HT_.out (by kernel_rfl)) (fun _ _ _ h => h) (Or.inl ⟨by rfl, ?_⟩) ?_ ?_
                    rotate_left
                    · intro w'
                      go_simp
                      with_reducible rfl
                    rotate_left
                    · simp only [Act.put, List.setIfInBounds_toArray, List.set_cons_zero, List.set_cons_succ, i64_w, i32_w]
                      rfl
                    refine done_ (done_of HT_.out (by kernel_rfl)) ?_
                    try go_wp2
                    go_ret2
                    exact ⟨by first | rfl | (simp [errW_none, errW_some] <;> rfl) | (simp [*, errW_none, errW_some] <;> rfl), by repeat (first | (with_reducible first | exact HB.out | apply below_alloc | apply pw_below_drewN | apply below_drew1) | exact HB.out)⟩
                  · rw [if_neg c39] at H
                    exact absurd H (by simp)
                · rw [if_neg c38] at H
                  exact absurd H (by simp)
            · rw [if_neg c32] at H
              have c32b0 : ((rd l1 0) == 95) = false := beq_eq_false_iff_ne.mpr c32
              have c32b1 : ((rd l1 0) != 95) = true := bne_iff_ne.mpr c32
              have H' := Aside0.mk H
              clear H
              have p109 : 0 ≤ (0 : Int) := (by omega)
              have q109 : 0 < (l1.length : Int) := of_decide_eq_true (by first | (with_reducible assumption) | assumption)
              obtain ⟨ad109, e109, hx109_0⟩ := Kd.at_int (Kd.V_reads' HO1.out).2.2 0 p109 q109
              cases e109
              have qi109 : (0 < l1.length) = True := eq_true (by omega)
              (try rw [show ((0 : Int)).toNat = 0 from rfl] at hx109_0)
              (try rw [Addr.add_zero'] at hx109_0)
              replace p109 := eq_true p109
              replace q109 := eq_true q109
              have p115 : 0 ≤ (0 : Int) := (by omega)
              have q115 : 0 < (l1.length : Int) := of_decide_eq_true (by first | (with_reducible assumption) | assumption)
              obtain ⟨ad115, e115, hx115_0⟩ := Kd.at_int (Kd.V_reads' HO1.out).2.2 0 p115 q115
              obtain rfl : ad109 = ad115 := (by injection e115)
              have qi115 : (0 < l1.length) = True := eq_true (by omega)
              (try rw [show ((0 : Int)).toNat = 0 from rfl] at hx115_0)
              (try rw [Addr.add_zero'] at hx115_0)
              replace p115 := eq_true p115
              replace q115 := eq_true q115
              have p124 : 0 ≤ (0 : Int) := (by omega)
              have q124 : 0 < (l1.length : Int) := of_decide_eq_true (by first | (with_reducible assumption) | assumption)
              obtain ⟨ad124, e124, hx124_0⟩ := Kd.at_int (Kd.V_reads' HO1.out).2.2 0 p124 q124
              obtain rfl : ad109 = ad124 := (by injection e124)
              have qi124 : (0 < l1.length) = True := eq_true (by omega)
              (try rw [show ((0 : Int)).toNat = 0 from rfl] at hx124_0)
              (try rw [Addr.add_zero'] at hx124_0)
              replace p124 := eq_true p124
              replace q124 := eq_true q124
              go_wp2
              go_meet
              case rel => exact ⟨_, (l1), H', ⟨by first | omega | exact Nat.le_refl _⟩, ⟨by (with_reducible repeat (first | apply Kd.V_alloc | apply Kd.V_drewN | apply Kd.V_drew)); exact HO1.out⟩, ⟨by repeat (first | (with_reducible first | exact HB.out | apply below_alloc | apply pw_below_drewN | apply below_drew1) | exact HB.out)⟩⟩
      · rw [if_neg c7] at H
        exact absurd H (by simp)
    case rest =>
      clear HC6
      try clear c1
      try clear p1
      try clear q1
      try clear hx1
      try clear qi1
      try clear c2
      try clear p2
      try clear q2
      try clear c3
      try clear q3
      try clear c4
      try clear q4
      try clear p6
      try clear c7
      try clear p10
      try clear q10
      try clear hx10
      try clear qi10
      try clear p11
      try clear q11
      try clear hx11
      try clear qi11
      try clear c12
      try clear c12b0
      try clear c12b1
      try clear p12
      try clear q12
      try clear hx12
      try clear qi12
      try clear c13
      try clear c13b0
      try clear c14
      try clear c15
      try clear c23
      try clear c25
      try clear c29
      try clear q29
      try clear c32
      try clear c32b0
      try clear c32b1
      try clear c33
      try clear c33b0
      try clear c33b1
      try clear c33b2
      try clear c34
      try clear c34b0
      try clear c34b1
      try clear c36
      try clear q36
      try clear c38
      try clear c38b0
      try clear c38b1
      try clear c39
      try clear c39b0
      try clear c39b1
      try clear c42
      try clear q42
      try clear hx109_0
      try clear hx115_0
      try clear hx124_0
      try clear p109
      try clear p115
      try clear p124
      try clear q109
      try clear q115
      try clear q124
      try clear q29
      try clear q36
      try clear q42
      obtain ⟨kq, x1_5, HA, HJ5, HO_1, HB⟩ := hcut
      cases kq with
      | zero => exact absurd HA.out (by simp [spec_LKMatch.j1])
      | succ kj5 =>
        have H := HA.out
        clear HA
        simp only [spec_LKMatch.j1] at H
        have HC45 := Aside0.mk H
        clear H
        go_upto_region 20 with (fail)
        go_cut [99] (fun v99 wc => ∃ (kq : Nat) (x99_44 : Bool), v99 = .bool x99_44 ∧ Aside0 (spec_LKMatch.j2 kq a0 x1_5 a2 l3 x99_44 = some (r1, r2)) ∧ Aside0 (kq ≤ kj5) ∧ Aside0 (Kd.V (Kd.int .i32) 21 wc w.heap.size (fun k_ => (P1_ k_ ∨ w.heap.size ≤ k_)) u1 x1_5) ∧ Aside0 (Below w.heap.size w wc))
        case first =>
          have H := HC45.out
          clear HC45
          by_cases c46 : (l3.length : Int) = 0
          · rw [if_pos c46] at H
            have c46b0 : ((l3.length : Int) == 0) = true := beq_iff_eq.mpr c46
            have c46b1 : ((l3.length : Int) != 0) = false := bne_eq_false_iff_eq.mpr c46
            clear c46
            (first | rw [c46b0] | (simp only [i64_w, i32_w]; rw [c46b0]) | skip)
            have H' := Aside0.mk H
            clear H
            try go_wp2
            have n0_ := Aside0.mk (Kd.V_drew HO_1.out)
            have n1_ := Aside0.mk (below_drew1 HB.out)
            clear HO_1
            clear HB
            have HO_1 := n0_
            have HB := n1_
            clear n0_ n1_
            refine start_ (n := 16) (S := fun w' => True) (ds := []) #[false, false, false, false, false, false, false, false, false, false, false, false, false, false, false, false] (by kernel_rfl) rfl rfl trivial (fun hHeld => ?_); refine with_tabW spec_LKMatch.tab20 spec_LKMatch.bits20 (fun HT_ HW_ => ?_)
            generalize wc.drew = w47 at HO_1 HB hHeld ⊢
            refine pure_ (i := 0) (N := some 84) (v := ?_) (a' := ?_) #[true, false, false, false, false, false, false, false, false, false, false, false, false, false, false, false] rfl rfl (any_of HT_.out (by kernel_rfl)) (fun _ _ _ h => h) (Or.inl ⟨by rfl, ?_⟩) ?_ ?_
            rotate_left
            · intro w'
              go_simp
              with_reducible rfl
            rotate_left
            · simp only [Act.put, List.setIfInBounds_toArray, List.set_cons_zero, List.set_cons_succ, i64_w, i32_w]
              rfl
            refine pure_ (i := 1) (N := some 85) (v := ?_) (a' := ?_) #[true, true, false, false, false, false, false, false, false, false, false, false, false, false, false, false] rfl rfl (any_of HT_.out (by kernel_rfl)) (fun _ _ _ h => h) (Or.inl ⟨by rfl, ?_⟩) ?_ ?_
            rotate_left
            · intro w'
              go_simp
              with_reducible rfl
            rotate_left
            · simp only [Act.put, List.setIfInBounds_toArray, List.set_cons_zero, List.set_cons_succ, i64_w, i32_w]
              rfl
            refine pure_ (i := 2) (N := some 86) (v := ?_) (a' := ?_) #[true, true, true, false, false, false, false, false, false, false, false, false, false, false, false, false] rfl rfl (any_of HT_.out (by kernel_rfl)) (fun _ _ _ h => h) (Or.inl ⟨by rfl, ?_⟩) ?_ ?_
            rotate_left
            · intro w'
              go_simp
              with_reducible rfl
            rotate_left
            · simp only [Act.put, List.setIfInBounds_toArray, List.set_cons_zero, List.set_cons_succ, i64_w, i32_w]
              rfl
            refine pure_ (i := 3) (N := some 87) (v := ?_) (a' := ?_) #[true, true, true, true, false, false, false, false, false, false, false, false, false, false, false, false] rfl rfl (any_of HT_.out (by kernel_rfl)) (fun _ _ _ h => h) (Or.inl ⟨by rfl, ?_⟩) ?_ ?_
            rotate_left
            · intro w'
              go_simp
              with_reducible rfl
            rotate_left
            · simp only [Act.put, List.setIfInBounds_toArray, List.set_cons_zero, List.set_cons_succ, i64_w, i32_w]
              rfl
            refine pure_ (i := 4) (N := some 88) (v := undef) (a' := ?_) #[true, true, true, true, true, false, false, false, false, false, false, false, false, false, false, false] rfl rfl (any_of HT_.out (by kernel_rfl)) (fun _ _ _ h => h) (Or.inr ⟨by rfl, rfl⟩) ?_ ?_
            rotate_left
            · simp only [Act.put, List.setIfInBounds_toArray, List.set_cons_zero, List.set_cons_succ, i64_w, i32_w]
              rfl
            refine pure_ (i := 5) (N := some 89) (v := undef) (a' := ?_) #[true, true, true, true, true, true, false, false, false, false, false, false, false, false, false, false] rfl rfl (any_of HT_.out (by kernel_rfl)) (fun _ _ _ h => h) (Or.inr ⟨by rfl, rfl⟩) ?_ ?_
            rotate_left
            · simp only [Act.put, List.setIfInBounds_toArray, List.set_cons_zero, List.set_cons_succ, i64_w, i32_w]
              rfl
            refine pure_ (i := 6) (N := some 90) (v := undef) (a' := ?_) #[true, true, true, true, true, true, true, false, false, false, false, false, false, false, false, false] rfl rfl (any_of HT_.out (by kernel_rfl)) (fun _ _ _ h => h) (Or.inr ⟨by rfl, rfl⟩) ?_ ?_
            rotate_left
            · simp only [Act.put, List.setIfInBounds_toArray, List.set_cons_zero, List.set_cons_succ, i64_w, i32_w]
              rfl
            refine pure_ (i := 7) (N := some 91) (v := undef) (a' := ?_) #[true, true, true, true, true, true, true, true, false, false, false, false, false, false, false, false] rfl rfl (any_of HT_.out (by kernel_rfl)) (fun _ _ _ h => h) (Or.inr ⟨by rfl, rfl⟩) ?_ ?_
            rotate_left
            · simp only [Act.put, List.setIfInBounds_toArray, List.set_cons_zero, List.set_cons_succ, i64_w, i32_w]
              rfl
            refine pure_ (i := 8) (N := some 92) (v := undef) (a' := ?_) #[true, true, true, true, true, true, true, true, true, false, false, false, false, false, false, false] rfl rfl (any_of HT_.out (by kernel_rfl)) (fun _ _ _ h => h) (Or.inr ⟨by rfl, rfl⟩) ?_ ?_
            rotate_left
            · simp only [Act.put, List.setIfInBounds_toArray, List.set_cons_zero, List.set_cons_succ, i64_w, i32_w]
              rfl
            refine pure_ (i := 9) (N := some 93) (v := undef) (a' := ?_) #[true, true, true, true, true, true, true, true, true, true, false, false, false, false, false, false] rfl rfl (any_of HT_.out (by kernel_rfl)) (fun _ _ _ h => h) (Or.inr ⟨by rfl, rfl⟩) ?_ ?_
            rotate_left
            · simp only [Act.put, List.setIfInBounds_toArray, List.set_cons_zero, List.set_cons_succ, i64_w, i32_w]
              rfl
            refine pure_ (i := 10) (N := some 94) (v := undef) (a' := ?_) #[true, true, true, true, true, true, true, true, true, true, true, false, false, false, false, false] rfl rfl (any_of HT_.out (by kernel_rfl)) (fun _ _ _ h => h) (Or.inr ⟨by rfl, rfl⟩) ?_ ?_
            rotate_left
            · simp only [Act.put, List.setIfInBounds_toArray, List.set_cons_zero, List.set_cons_succ, i64_w, i32_w]
              rfl
            refine pure_ (i := 11) (N := some 95) (v := undef) (a' := ?_) #[true, true, true, true, true, true, true, true, true, true, true, true, false, false, false, false] rfl rfl (any_of HT_.out (by kernel_rfl)) (fun _ _ _ h => h) (Or.inr ⟨by rfl, rfl⟩) ?_ ?_
            rotate_left
            · simp only [Act.put, List.setIfInBounds_toArray, List.set_cons_zero, List.set_cons_succ, i64_w, i32_w]
              rfl
            refine pure_ (i := 12) (N := some 96) (v := undef) (a' := ?_) #[true, true, true, true, true, true, true, true, true, true, true, true, true, false, false, false] rfl rfl (any_of HT_.out (by kernel_rfl)) (fun _ _ _ h => h) (Or.inr ⟨by rfl, rfl⟩) ?_ ?_
            rotate_left
            · simp only [Act.put, List.setIfInBounds_toArray, List.set_cons_zero, List.set_cons_succ, i64_w, i32_w]
              rfl
            refine pure_ (i := 13) (N := some 97) (v := undef) (a' := ?_) #[true, true, true, true, true, true, true, true, true, true, true, true, true, true, false, false] rfl rfl (any_of HT_.out (by kernel_rfl)) (fun _ _ _ h => h) (Or.inr ⟨by rfl, rfl⟩) ?_ ?_
            rotate_left
            · simp only [Act.put, List.setIfInBounds_toArray, List.set_cons_zero, List.set_cons_succ, i64_w, i32_w]
              rfl
            refine pure_ (i := 14) (N := some 98) (v := undef) (a' := ?_) #[true, true, true, true, true, true, true, true, true, true, true, true, true, true, true, false] rfl rfl (any_of HT_.out (by kernel_rfl)) (fun _ _ _ h => h) (Or.inr ⟨by rfl, rfl⟩) ?_ ?_
            rotate_left
            · simp only [Act.put, List.setIfInBounds_toArray, List.set_cons_zero, List.set_cons_succ, i64_w, i32_w]
              rfl
            refine pure_ (i := 15) (N := some 99) (v := ?_) (a' := ?_) #[true, true, true, true, true, true, true, true, true, true, true, true, true, true, true, true] rfl rfl (any_of HT_.out (by kernel_rfl)) (fun _ _ _ h => h) (Or.inl ⟨by rfl, ?_⟩) ?_ ?_
            rotate_left
            · intro w'
              go_simp
              with_reducible rfl
            rotate_left
            · simp only [Act.put, List.setIfInBounds_toArray, List.set_cons_zero, List.set_cons_succ, i64_w, i32_w]
              rfl
            refine done_ (done_of HT_.out (by kernel_rfl)) ?_
            try go_wp2
            go_meet
            case rel => exact ⟨_, (true), (by first | rfl | (simp; done) | (simp [*]; done)), H', ⟨by have := HJ5.out; first | omega | exact Nat.le_refl _⟩, ⟨by (with_reducible repeat (first | apply Kd.V_alloc | apply Kd.V_drewN | apply Kd.V_drew)); exact HO_1.out⟩, ⟨by repeat (first | (with_reducible first | exact HB.out | apply below_alloc | apply pw_below_drewN | apply below_drew1) | exact HB.out)⟩⟩
          · rw [if_neg c46] at H
            have c46b0 : ((l3.length : Int) == 0) = false := beq_eq_false_iff_ne.mpr c46
            have c46b1 : ((l3.length : Int) != 0) = true := bne_iff_ne.mpr c46
            have c46b2 : ¬ (l3 = []) := fun h_ => c46 (by rw [h_]; rfl)
            (first | rw [c46b0] | (simp only [i64_w, i32_w]; rw [c46b0]) | skip)
            by_cases c48 : 0 < (x1_5.length : Int)
            · rw [if_pos c48] at H
              have c48b0 : decide (0 < (x1_5.length : Int)) = true := decide_eq_true c48
              have c48b1 : decide (0 < x1_5.length) = true := decide_eq_true (by omega)
              clear c48
              replace H := Option.bind_eq_some_iff.mp H
              obtain ⟨t141, A490, H⟩ := H
              replace H : (if 0 < (l3.length : Int) then ((spec_lkFold.f a0 (rd l3 0)).bind fun t143 => (spec_LKMatch.j2 kj5 a0 x1_5 a2 l3 (t141 != t143))) else (none)) = some (r1, r2) := H
              have A49 := Aside0.mk A490
              clear A490
              by_cases c50 : 0 < (l3.length : Int)
              · rw [if_pos c50] at H
                have c50b0 : decide (0 < (l3.length : Int)) = true := decide_eq_true c50
                have c50b1 : decide (0 < l3.length) = true := decide_eq_true (by omega)
                clear c50
                replace H := Option.bind_eq_some_iff.mp H
                obtain ⟨t143, A510, H⟩ := H
                replace H : (spec_LKMatch.j2 kj5 a0 x1_5 a2 l3 (t141 != t143)) = some (r1, r2) := H
                have A51 := Aside0.mk A510
                clear A510
                have H' := Aside0.mk H
                clear H
                try go_wp2
                have n0_ := Aside0.mk (Kd.V_drew HO_1.out)
                have n1_ := Aside0.mk (below_drew1 HB.out)
                clear HO_1
                clear HB
                have HO_1 := n0_
                have HB := n1_
                clear n0_ n1_
                obtain ⟨Ao53, co53, eo53⟩ := Kd.V_slice HO_1.out
                (first | subst eo53 | (injection eo53 with f1_ f2_ f3_; have f4_ := f1_.symm; have f5_ := f3_.symm; clear f1_ f2_ f3_; subst f4_; subst f5_))
                have p140 : 0 ≤ (0 : Int) := (by omega)
                have q140 : 0 < (x1_5.length : Int) := of_decide_eq_true (by first | (with_reducible assumption) | assumption)
                obtain ⟨ad140, e140, hx140_0⟩ := Kd.at_int (Kd.V_reads' HO_1.out).2.2 0 p140 q140
                cases e140
                have qi140 : (0 < x1_5.length) = True := eq_true (by omega)
                (try rw [show ((0 : Int)).toNat = 0 from rfl] at hx140_0)
                (try rw [Addr.add_zero'] at hx140_0)
                replace p140 := eq_true p140
                replace q140 := eq_true q140
                have p142 : 0 ≤ (0 : Int) := (by omega)
                have q142 : 0 < (l3.length : Int) := of_decide_eq_true (by first | (with_reducible assumption) | assumption)
                obtain ⟨ad142, e142, hx142_0⟩ := Kd.at_int HR3.out 0 p142 q142
                have hw142_0 := hx142_0
                (try rw [show ((0 : Int)).toNat = 0 from rfl] at hw142_0)
                (try rw [show 0 * 1 = 0 from rfl] at hw142_0)
                (try rw [Addr.add_zero'] at hw142_0)
                cases e142
                have qi142 : (0 < l3.length) = True := eq_true (by omega)
                (try rw [show ((0 : Int)).toNat = 0 from rfl] at hx142_0)
                (try rw [Addr.add_zero'] at hx142_0)
                replace hx142_0 := (HB.out.cell (World.block_lt_of_cell? w _ hx142_0)).trans hx142_0
                replace p142 := eq_true p142
                replace q142 := eq_true q142
                refine start_ (n := 16) (S := fun w' => w'.cell? ad140 = some (.int .i32 (rd x1_5 0)) ∧ w'.cell? ad142 = some (.int .i32 (rd l3 0))) (ds := []) #[false, false, false, false, false, false, false, false, false, false, false, false, false, false, false, false] (by kernel_rfl) rfl rfl ⟨hx140_0, ((HB.out.cell (World.block_lt_of_cell? w _ hw142_0)).trans hw142_0)⟩ (fun hHeld => ?_); refine with_tabW spec_LKMatch.tab20 spec_LKMatch.bits20 (fun HT_ HW_ => ?_)
                generalize wc.drew = w52 at HO_1 HB hx140_0 hx142_0 hHeld ⊢
                refine pure_ (i := 0) (N := some 84) (v := ?_) (a' := ?_) #[true, false, false, false, false, false, false, false, false, false, false, false, false, false, false, false] rfl rfl (any_of HT_.out (by kernel_rfl)) (fun _ _ _ h => h) (Or.inl ⟨by rfl, ?_⟩) ?_ ?_
                rotate_left
                · intro w'
                  go_simp
                  with_reducible rfl
                rotate_left
                · simp only [Act.put, List.setIfInBounds_toArray, List.set_cons_zero, List.set_cons_succ, i64_w, i32_w]
                  rfl
                refine pure_ (i := 1) (N := some 85) (v := ?_) (a' := ?_) #[true, true, false, false, false, false, false, false, false, false, false, false, false, false, false, false] rfl rfl (any_of HT_.out (by kernel_rfl)) (fun _ _ _ h => h) (Or.inl ⟨by rfl, ?_⟩) ?_ ?_
                rotate_left
                · intro w'
                  go_simp
                  with_reducible rfl
                rotate_left
                · simp only [Act.put, List.setIfInBounds_toArray, List.set_cons_zero, List.set_cons_succ, i64_w, i32_w]
                  rfl
                refine pure_ (i := 2) (N := some 86) (v := ?_) (a' := ?_) #[true, true, true, false, false, false, false, false, false, false, false, false, false, false, false, false] rfl rfl (any_of HT_.out (by kernel_rfl)) (fun _ _ _ h => h) (Or.inl ⟨by rfl, ?_⟩) ?_ ?_
                rotate_left
                · intro w'
                  go_simp
                  with_reducible rfl
                rotate_left
                · simp only [Act.put, List.setIfInBounds_toArray, List.set_cons_zero, List.set_cons_succ, i64_w, i32_w]
                  rfl
                refine pure_ (i := 3) (N := some 87) (v := ?_) (a' := ?_) #[true, true, true, true, false, false, false, false, false, false, false, false, false, false, false, false] rfl rfl (any_of HT_.out (by kernel_rfl)) (fun _ _ _ h => h) (Or.inl ⟨by rfl, ?_⟩) ?_ ?_
                rotate_left
                · intro w'
                  go_simp
                  with_reducible rfl
                rotate_left
                · simp only [Act.put, List.setIfInBounds_toArray, List.set_cons_zero, List.set_cons_succ, i64_w, i32_w]
                  rfl
                refine pure_ (i := 4) (N := some 88) (v := ?_) (a' := ?_) #[true, true, true, true, true, false, false, false, false, false, false, false, false, false, false, false] rfl rfl (any_of HT_.out (by kernel_rfl)) (fun _ _ _ h => h) (Or.inl ⟨by rfl, ?_⟩) ?_ ?_
                rotate_left
                · intro w'
                  go_simp
                  with_reducible rfl
                rotate_left
                · simp only [Act.put, List.setIfInBounds_toArray, List.set_cons_zero, List.set_cons_succ, i64_w, i32_w]
                  rfl
                refine pure_ (i := 5) (N := some 89) (v := ?_) (a' := ?_) #[true, true, true, true, true, true, false, false, false, false, false, false, false, false, false, false] rfl rfl (any_of HT_.out (by kernel_rfl)) (fun _ _ _ h => h) (Or.inl ⟨by rfl, ?_⟩) ?_ ?_
                rotate_left
                · intro w'
                  go_simp
                  with_reducible rfl
                rotate_left
                · simp only [Act.put, List.setIfInBounds_toArray, List.set_cons_zero, List.set_cons_succ, i64_w, i32_w]
                  rfl
                refine pure_ (i := 6) (N := some 90) (v := ?_) (a' := ?_) #[true, true, true, true, true, true, true, false, false, false, false, false, false, false, false, false] rfl rfl (any_of HT_.out (by kernel_rfl)) (fun _ _ _ h => h) (Or.inl ⟨by rfl, ?_⟩) ?_ ?_
                rotate_left
                · intro w'
                  go_simp
                  with_reducible rfl
                rotate_left
                · simp only [Act.put, List.setIfInBounds_toArray, List.set_cons_zero, List.set_cons_succ, i64_w, i32_w]
                  rfl
                refine pure_ (i := 9) (N := some 93) (v := ?_) (a' := ?_) #[true, true, true, true, true, true, true, false, false, true, false, false, false, false, false, false] rfl rfl (any_of HT_.out (by kernel_rfl)) (fun _ _ _ h => h) (Or.inl ⟨by rfl, ?_⟩) ?_ ?_
                rotate_left
                · intro w'
                  go_simp
                  with_reducible rfl
                rotate_left
                · simp only [Act.put, List.setIfInBounds_toArray, List.set_cons_zero, List.set_cons_succ, i64_w, i32_w]
                  rfl
                refine pure_ (i := 10) (N := some 94) (v := ?_) (a' := ?_) #[true, true, true, true, true, true, true, false, false, true, true, false, false, false, false, false] rfl rfl (any_of HT_.out (by kernel_rfl)) (fun _ _ _ h => h) (Or.inl ⟨by rfl, ?_⟩) ?_ ?_
                rotate_left
                · intro w'
                  go_simp
                  with_reducible rfl
                rotate_left
                · simp only [Act.put, List.setIfInBounds_toArray, List.set_cons_zero, List.set_cons_succ, i64_w, i32_w]
                  rfl
                refine pure_ (i := 11) (N := some 95) (v := ?_) (a' := ?_) #[true, true, true, true, true, true, true, false, false, true, true, true, false, false, false, false] rfl rfl (any_of HT_.out (by kernel_rfl)) (fun _ _ _ h => h) (Or.inl ⟨by rfl, ?_⟩) ?_ ?_
                rotate_left
                · intro w'
                  go_simp
                  with_reducible rfl
                rotate_left
                · simp only [Act.put, List.setIfInBounds_toArray, List.set_cons_zero, List.set_cons_succ, i64_w, i32_w]
                  rfl
                refine take_ (i := 7) (N := some 91) (v := ?_) (a' := ?_) #[true, true, true, true, true, true, true, true, false, true, true, true, false, false, false, false] rfl rfl (take_ofW HT_.out HW_.out (by kernel_rfl)) (fun _ _ _ h => h) (Or.inl ⟨by rfl, ?_⟩) hHeld ?_ ?_
                rotate_left
                · rintro w' ⟨s0, s1⟩
                  go_simp
                  with_reducible rfl
                rotate_left
                · simp only [Act.put, List.setIfInBounds_toArray, List.set_cons_zero, List.set_cons_succ, i64_w, i32_w]
                  rfl
                refine take_ (i := 12) (N := some 96) (v := ?_) (a' := ?_) #[true, true, true, true, true, true, true, true, false, true, true, true, true, false, false, false] rfl rfl (take_ofW HT_.out HW_.out (by kernel_rfl)) (fun _ _ _ h => h) (Or.inl ⟨by rfl, ?_⟩) hHeld ?_ ?_
                rotate_left
                · rintro w' ⟨s0, s1⟩
                  go_simp
                  with_reducible rfl
                rotate_left
                · simp only [Act.put, List.setIfInBounds_toArray, List.set_cons_zero, List.set_cons_succ, i64_w, i32_w]
                  rfl
                refine one_ (i := 8) (N := some 92) #[true, true, true, true, true, true, true, true, true, true, true, true, true, false, false, false] rfl rfl (one_of HT_.out (by kernel_rfl)) (by decide) (fun K hK => ?_)
                refine goes_ Tryd.func40 (by kernel_rfl) rfl #[.bool a0, .int .i32 (rd x1_5 0)] (by rfl) rfl rfl (by (try simp only [List.map_toArray, List.map_cons, List.map_nil]); first | done | rfl | (simp only [List.length_drop, List.length_take]; rfl)) ?_
                with_reducible refine (spec_lkFold.calls a0 (rd x1_5 0) t141 _ A49.out).mono ?_
                rintro e w' ⟨rfl, ⟨nd, rfl⟩⟩
                refine ⟨_, rfl, ?_⟩
                refine hK.out _ _ ⟨hHeld.1, ((HB.out.cell (World.block_lt_of_cell? w _ hw142_0)).trans hw142_0)⟩ (fun hHeld => ?_)
                clear hK K
                refine norm_ (a' := ?_) ?_ ?_
                rotate_left
                · show Act.put _ (some 92) _ = _
                  simp only [Act.put, List.setIfInBounds_toArray, List.set_cons_zero, List.set_cons_succ, i64_w, i32_w]
                  rfl
                refine one_ (i := 13) (N := some 97) #[true, true, true, true, true, true, true, true, true, true, true, true, true, true, false, false] rfl rfl (one_of HT_.out (by kernel_rfl)) (by decide) (fun K hK => ?_)
                refine goes_ Tryd.func40 (by kernel_rfl) rfl #[.bool a0, .int .i32 (rd l3 0)] (by rfl) rfl rfl (by (try simp only [List.map_toArray, List.map_cons, List.map_nil]); first | done | rfl | (simp only [List.length_drop, List.length_take]; rfl)) ?_
                with_reducible refine (spec_lkFold.calls a0 (rd l3 0) t143 _ A51.out).mono ?_
                rintro e w' ⟨rfl, ⟨nd, rfl⟩⟩
                refine ⟨_, rfl, ?_⟩
                refine hK.out _ _ ⟨hHeld.1, ((HB.out.cell (World.block_lt_of_cell? w _ hw142_0)).trans hw142_0)⟩ (fun hHeld => ?_)
                clear hK K
                refine norm_ (a' := ?_) ?_ ?_
                rotate_left
                · show Act.put _ (some 97) _ = _
                  simp only [Act.put, List.setIfInBounds_toArray, List.set_cons_zero, List.set_cons_succ, i64_w, i32_w]
                  rfl
                refine pure_ (i := 14) (N := some 98) (v := ?_) (a' := ?_) #[true, true, true, true, true, true, true, true, true, true, true, true, true, true, true, false] rfl rfl (any_of HT_.out (by kernel_rfl)) (fun _ _ _ h => h) (Or.inl ⟨by rfl, ?_⟩) ?_ ?_
                rotate_left
                · intro w'
                  go_simp
                  with_reducible rfl
                rotate_left
                · simp only [Act.put, List.setIfInBounds_toArray, List.set_cons_zero, List.set_cons_succ, i64_w, i32_w]
                  rfl
                refine pure_ (i := 15) (N := some 99) (v := ?_) (a' := ?_) #[true, true, true, true, true, true, true, true, true, true, true, true, true, true, true, true] rfl rfl (any_of HT_.out (by kernel_rfl)) (fun _ _ _ h => h) (Or.inl ⟨by rfl, ?_⟩) ?_ ?_
                rotate_left
                · intro w'
                  go_simp
                  with_reducible rfl
                rotate_left
                · simp only [Act.put, List.setIfInBounds_toArray, List.set_cons_zero, List.set_cons_succ, i64_w, i32_w]
                  rfl
                refine done_ (done_of HT_.out (by kernel_rfl)) ?_
                try go_wp2
                go_meet
                case rel => exact ⟨_, ((t141 != t143)), (by first | rfl | (simp; done) | (simp [*]; done)), H', ⟨by have := HJ5.out; first | omega | exact Nat.le_refl _⟩, ⟨by (with_reducible repeat (first | apply Kd.V_alloc | apply Kd.V_drewN | apply Kd.V_drew)); exact HO_1.out⟩, ⟨by repeat (first | (with_reducible first | exact HB.out | apply below_alloc | apply pw_below_drewN | apply below_drew1) | exact HB.out)⟩⟩
              · rw [if_neg c50] at H
                exact absurd H (by simp)
            · rw [if_neg c48] at H
              exact absurd H (by simp)
        case rest =>
          clear HC45
          try clear c1
          try clear p1
          try clear q1
          try clear hx1
          try clear qi1
          try clear c2
          try clear p2
          try clear q2
          try clear c3
          try clear q3
          try clear c4
          try clear q4
          try clear c5
          try clear p6
          try clear c7
          try clear p10
          try clear q10
          try clear hx10
          try clear qi10
          try clear p11
          try clear q11
          try clear hx11
          try clear qi11
          try clear c12
          try clear c12b0
          try clear c12b1
          try clear p12
          try clear q12
          try clear hx12
          try clear qi12
          try clear c13
          try clear c13b0
          try clear c14
          try clear p14
          try clear q14
          try clear hx14
          try clear qi14
          try clear c15
          try clear c23
          try clear c25
          try clear c29
          try clear q29
          try clear c32
          try clear c32b0
          try clear c32b1
          try clear c33
          try clear c33b0
          try clear c33b1
          try clear c33b2
          try clear c34
          try clear c34b0
          try clear c34b1
          try clear c36
          try clear q36
          try clear c38
          try clear c38b0
          try clear c38b1
          try clear c39
          try clear c39b0
          try clear c39b1
          try clear c40
          try clear c42
          try clear q42
          try clear c46
          try clear c46b0
          try clear c46b1
          try clear c46b2
          try clear c48
          try clear c48b0
          try clear c48b1
          try clear c50
          try clear c50b0
          try clear c50b1
          try clear hx109_0
          try clear hx115_0
          try clear hx124_0
          try clear hx140_0
          try clear hx142_0
          try clear p1
          try clear p10
          try clear p109
          try clear p11
          try clear p115
          try clear p12
          try clear p124
          try clear p140
          try clear p142
          try clear p2
          try clear p6
          try clear q1
          try clear q10
          try clear q109
          try clear q11
          try clear q115
          try clear q12
          try clear q124
          try clear q140
          try clear q142
          try clear q2
          try clear q29
          try clear q3
          try clear q36
          try clear q4
          try clear q42
          obtain ⟨kq, x99_44, rfl, HA, HJ44, HO_1, HB⟩ := hcut
          cases kq with
          | zero => exact absurd HA.out (by simp [spec_LKMatch.j2])
          | succ kj44 =>
            have H := HA.out
            clear HA
            simp only [spec_LKMatch.j2] at H
            by_cases c54 : x99_44 = true
            · subst c54
              have H1 : (if 1 ≤ (x1_5.length : Int) then ((spec_LKMatch.f kj44 a0 (x1_5.drop 1) a2 ([] : List Int)).bind fun bt149 => (some (false, bt149.2))) else (none)) = some (r1, r2) := by rw [if_pos rfl] at H; exact H
              clear H
              have H := H1
              clear H1
              by_cases c55 : 1 ≤ (x1_5.length : Int)
              · rw [if_pos c55] at H
                have c55b0 := eq_true c55
                have c55b1 : decide (1 ≤ (x1_5.length : Int)) = true := decide_eq_true c55
                clear c55
                obtain ⟨y144, hy144⟩ : ∃ y_ : List Int, y_ = (x1_5.drop 1) := ⟨_, rfl⟩
                replace H : ((spec_LKMatch.f kj44 a0 y144 a2 ([] : List Int)).bind fun bt149 => (some (false, bt149.2))) = some (r1, r2) := by first | (rw [hy144]; with_reducible exact H) | (have H2_ := (Option.bind_some _ _).symm.trans H; rw [hy144]; with_reducible exact H2_) | (have H2_ := (Option.bind_some _ _).symm.trans H; with_reducible exact H2_) | with_reducible exact H | (rw [hy144]; exact H) | exact H
                have Ny144 := Aside0.mk hy144
                clear hy144
                replace H := Option.bind_eq_some_iff.mp H
                obtain ⟨⟨t149, t150⟩, A560, H⟩ := H
                replace H : (some (false, t150)) = some (r1, r2) := H
                have A56 := Aside0.mk A560
                clear A560
                simp only [Option.some.injEq, Prod.mk.injEq] at H
                obtain ⟨rfl, rfl⟩ := H
                obtain ⟨Ao58, co58, eo58⟩ := Kd.V_slice HO_1.out
                subst eo58
                have q57 : (1 : Int) ≤ ((x1_5.length : Int) : Int) := of_decide_eq_true (by first | (with_reducible assumption) | assumption)
                obtain ⟨i057, hi057, _, hsz57, _⟩ := info_parts info21
                have hroom57 : x1_5.length ≤ co58 := (Kd.V_reads' HO_1.out).2.1
                have hC57 : Kd.F (Kd.int .i32) _ _ Ao58 x1_5.length x1_5 := (Kd.V_at (base := w.heap.size) HO_1.out).2.2
                have hcut57 := cut_from (P := Tryd.prog) 27 21 .i64 Tryd.underlying27 hi057 1 hsz57 Ao58 x1_5.length co58 1 (by omega) q57
                have hr57 := Kd.F_cut (m := (1 : Int).toNat) (c := co58) hC57 (by omega) hroom57
                obtain ⟨A57, hA57⟩ : ∃ A1, A1 = (if co58 = (1 : Int).toNat then Ao58 else (Ao58 : Option Addr).map (·.add ((1 : Int).toNat * 1))) := ⟨_, rfl⟩
                obtain ⟨c57, hc57⟩ : ∃ c1, c1 = co58 - (1 : Int).toNat := ⟨_, rfl⟩
                have hy57 : y144.length = x1_5.length - (1 : Int).toNat := (by rw [Ny144.out, List.length_drop] <;> omega)
                rw [show (x1_5).drop (1 : Int).toNat = y144 from Ny144.out.symm] at hr57
                replace hr57 : Kd.F (Kd.int .i32) _ _ A57 y144.length y144 := (by rw [hA57]; exact hr57)
                rw [← hy57, ← hA57, ← hc57] at hcut57
                have HO148 := Aside0.mk (show Kd.V (Kd.int .i32) 21 _ w.heap.size _ (.slice A57 y144.length c57) y144 from Kd.V_mk (by rw [hy57, hc57]; exact Nat.sub_le_sub_right hroom57 _) hr57)
                have HC148 := Aside0.mk (show y144.length ≤ c57 from by rw [hy57, hc57]; exact Nat.sub_le_sub_right hroom57 _)
                clear hr57 hC57 hroom57 hi057 hsz57 hc57
                have KY57 := Aside0.mk hy57
                have KA57 := Aside0.mk hA57
                clear hy57 hA57
                replace q57 := eq_true q57
                go_wp2_with (first | ((with_reducible refine gate_callee (f := 13) rfl ?_); refine goesL_ (some 105) rfl rfl Tryd.func13 (by kernel_rfl) rfl #[.bool a0, .slice A57 y144.length c57, .int .i32 a2, .slice none 0 0] rfl (by (try simp only [List.map_toArray, List.map_cons, List.map_nil]); first | done | rfl | (simp only [List.length_drop, List.length_take]; rfl)) ?_; (refine (ih kj44 (by have := HJ5.out; have := HJ44.out; omega) a0 (fun k_ => (P1_ k_ ∨ w.heap.size ≤ k_)) _ _ y144 a2 _ _ ([] : List Int) t149 t150 _ ?side1 ?side2 ?side3 A56.out).mono ?_); (case side1 => exact HO148.out); (case side2 => exact Kd.C_nil _ _); (case side3 => exact Nat.le_refl _); rintro e w59 ⟨rfl, hb⟩; refine ⟨_, rfl, ?_⟩; have n0_ := Aside0.mk (Kd.V_below (by (with_reducible repeat (first | apply Kd.V_alloc | apply Kd.V_drewN | apply Kd.V_drew)); exact HO_1.out) hb); have n1_ := Aside0.mk (Kd.V_below (by (with_reducible repeat (first | apply Kd.V_alloc | apply Kd.V_drewN | apply Kd.V_drew)); exact HO148.out) hb); have n2_ := Aside0.mk (below_step (by repeat (first | (with_reducible first | exact HB.out | apply below_alloc | apply pw_below_drewN | apply below_drew1) | exact HB.out)) hb); clear HO_1; clear HO148; clear HB; have HO_1 := n0_; have HO148 := n1_; have HB := n2_; clear n0_ n1_ n2_; (try clear hb); (try clear hb2); (try clear hk); (try clear hi)))
                go_ret2
                exact ⟨by first | rfl | (simp [errW_none, errW_some] <;> rfl) | (simp [*, errW_none, errW_some] <;> rfl), by repeat (first | (with_reducible first | exact HB.out | apply below_alloc | apply pw_below_drewN | apply below_drew1) | exact HB.out)⟩
              · rw [if_neg c55] at H
                exact absurd H (by simp)
            · replace c54 := Bool.eq_false_iff.mpr c54
              subst c54
              have H1 : (if 1 ≤ (x1_5.length : Int) then (if 1 ≤ (l3.length : Int) then ((spec_LKMatch.f kj44 a0 (x1_5.drop 1) a2 (l3.drop 1)).bind fun bt157 => (some (bt157.1, bt157.2))) else (none)) else (none)) = some (r1, r2) := by rw [if_neg (show ¬ (false = true) by decide)] at H; exact H
              clear H
              have H := H1
              clear H1
              by_cases c60 : 1 ≤ (x1_5.length : Int)
              · rw [if_pos c60] at H
                have c60b0 := eq_true c60
                have c60b1 : decide (1 ≤ (x1_5.length : Int)) = true := decide_eq_true c60
                clear c60
                obtain ⟨y151, hy151⟩ : ∃ y_ : List Int, y_ = (x1_5.drop 1) := ⟨_, rfl⟩
                replace H : (if 1 ≤ (l3.length : Int) then ((spec_LKMatch.f kj44 a0 y151 a2 (l3.drop 1)).bind fun bt157 => (some (bt157.1, bt157.2))) else (none)) = some (r1, r2) := by first | (rw [hy151]; with_reducible exact H) | (have H2_ := (Option.bind_some _ _).symm.trans H; rw [hy151]; with_reducible exact H2_) | (have H2_ := (Option.bind_some _ _).symm.trans H; with_reducible exact H2_) | with_reducible exact H | (rw [hy151]; exact H) | exact H
                have Ny151 := Aside0.mk hy151
                clear hy151
                by_cases c61 : 1 ≤ (l3.length : Int)
                · rw [if_pos c61] at H
                  have c61b0 := eq_true c61
                  have c61b1 : decide (1 ≤ (l3.length : Int)) = true := decide_eq_true c61
                  clear c61
                  replace H := Option.bind_eq_some_iff.mp H
                  obtain ⟨⟨t157, t158⟩, A620, H⟩ := H
                  replace H : (some (t157, t158)) = some (r1, r2) := H
                  have A62 := Aside0.mk A620
                  clear A620
                  simp only [Option.some.injEq, Prod.mk.injEq] at H
                  obtain ⟨rfl, rfl⟩ := H
                  try go_wp2
                  have n0_ := Aside0.mk (Kd.V_drew HO_1.out)
                  have n1_ := Aside0.mk (below_drew1 HB.out)
                  clear HO_1
                  clear HB
                  have HO_1 := n0_
                  have HB := n1_
                  clear n0_ n1_
                  obtain ⟨Ao65, co65, eo65⟩ := Kd.V_slice HO_1.out
                  (first | subst eo65 | (injection eo65 with f1_ f2_ f3_; have f4_ := f1_.symm; have f5_ := f3_.symm; clear f1_ f2_ f3_; subst f4_; subst f5_))
                  have q64 : (1 : Int) ≤ ((x1_5.length : Int) : Int) := of_decide_eq_true (by first | (with_reducible assumption) | assumption)
                  obtain ⟨i064, hi064, _, hsz64, _⟩ := info_parts info21
                  have hroom64 : x1_5.length ≤ co65 := (Kd.V_reads' HO_1.out).2.1
                  have hC64 : Kd.F (Kd.int .i32) _ _ Ao65 x1_5.length x1_5 := (Kd.V_at (base := w.heap.size) HO_1.out).2.2
                  have hcut64 := cut_from (P := Tryd.prog) 27 21 .i64 Tryd.underlying27 hi064 1 hsz64 Ao65 x1_5.length co65 1 (by omega) q64
                  have hr64 := Kd.F_cut (m := (1 : Int).toNat) (c := co65) hC64 (by omega) hroom64
                  obtain ⟨A64, hA64⟩ : ∃ A1, A1 = (if co65 = (1 : Int).toNat then Ao65 else (Ao65 : Option Addr).map (·.add ((1 : Int).toNat * 1))) := ⟨_, rfl⟩
                  obtain ⟨c64, hc64⟩ : ∃ c1, c1 = co65 - (1 : Int).toNat := ⟨_, rfl⟩
                  have hy64 : y151.length = x1_5.length - (1 : Int).toNat := (by rw [Ny151.out, List.length_drop] <;> omega)
                  rw [show (x1_5).drop (1 : Int).toNat = y151 from Ny151.out.symm] at hr64
                  replace hr64 : Kd.F (Kd.int .i32) _ _ A64 y151.length y151 := (by rw [hA64]; exact hr64)
                  rw [← hy64, ← hA64, ← hc64] at hcut64
                  have HO155 := Aside0.mk (show Kd.V (Kd.int .i32) 21 _ w.heap.size _ (.slice A64 y151.length c64) y151 from Kd.V_mk (by rw [hy64, hc64]; exact Nat.sub_le_sub_right hroom64 _) hr64)
                  have HC155 := Aside0.mk (show y151.length ≤ c64 from by rw [hy64, hc64]; exact Nat.sub_le_sub_right hroom64 _)
                  clear hr64 hC64 hroom64 hi064 hsz64 hc64
                  have KY64 := Aside0.mk hy64
                  have KA64 := Aside0.mk hA64
                  clear hy64 hA64
                  replace q64 := eq_true q64
                  obtain ⟨i066, hi066, _, hsz66, _⟩ := info_parts info21
                  obtain ⟨A66, hcut66, hA66, hC66⟩ := print_drop_of (P := Tryd.prog) (Value.int .i32) 0 27 21 .i64 Tryd.underlying27 hi066 hsz66 A3 c3 l3 1 (by omega) (of_decide_eq_true (by first | (with_reducible assumption) | assumption)) HC3.out
                  have HR156 := Aside0.mk (Kd.C_of_reads (h1 := fun _ => rfl) (hA66 _ (Kd.reads_of_C HR3.out)))
                  have HC156 := Aside0.mk hC66
                  clear hA66 hC66 hi066 hsz66
                  refine start_ (n := 11) (S := fun w' => True) (ds := []) #[false, false, false, false, false, false, false, false, false, false, false] (by kernel_rfl) rfl rfl trivial (fun hHeld => ?_); refine with_tabW spec_LKMatch.tab23 spec_LKMatch.bits23 (fun HT_ HW_ => ?_)
                  generalize wc.drew = w63 at HO_1 HB HO155 HR156 hHeld ⊢
                  refine pure_ (i := 0) (N := some 109) (v := ?_) (a' := ?_) #[true, false, false, false, false, false, false, false, false, false, false] rfl rfl (any_of HT_.out (by kernel_rfl)) (fun _ _ _ h => h) (Or.inl ⟨by rfl, ?_⟩) ?_ ?_
                  rotate_left
                  · intro w'
                    go_simp
                    with_reducible rfl
                  rotate_left
                  · simp only [Act.put, List.setIfInBounds_toArray, List.set_cons_zero, List.set_cons_succ, i64_w, i32_w]
                    rfl
                  refine pure_ (i := 1) (N := some 110) (v := ?_) (a' := ?_) #[true, true, false, false, false, false, false, false, false, false, false] rfl rfl (any_of HT_.out (by kernel_rfl)) (fun _ _ _ h => h) (Or.inl ⟨by rfl, ?_⟩) ?_ ?_
                  rotate_left
                  · intro w'
                    go_simp
                    with_reducible rfl
                  rotate_left
                  · simp only [Act.put, List.setIfInBounds_toArray, List.set_cons_zero, List.set_cons_succ, i64_w, i32_w]
                    rfl
                  refine pure_ (i := 2) (N := some 111) (v := ?_) (a' := ?_) #[true, true, true, false, false, false, false, false, false, false, false] rfl rfl (any_of HT_.out (by kernel_rfl)) (fun _ _ _ h => h) (Or.inl ⟨by rfl, ?_⟩) ?_ ?_
                  rotate_left
                  · intro w'
                    go_simp
                    with_reducible rfl
                  rotate_left
                  · simp only [Act.put, List.setIfInBounds_toArray, List.set_cons_zero, List.set_cons_succ, i64_w, i32_w]
                    rfl
                  refine pure_ (i := 3) (N := some 112) (v := ?_) (a' := ?_) #[true, true, true, true, false, false, false, false, false, false, false] rfl rfl (any_of HT_.out (by kernel_rfl)) (fun _ _ _ h => h) (Or.inl ⟨by rfl, ?_⟩) ?_ ?_
                  rotate_left
                  · intro w'
                    go_simp
                    with_reducible rfl
                  rotate_left
                  · simp only [Act.put, List.setIfInBounds_toArray, List.set_cons_zero, List.set_cons_succ, i64_w, i32_w]
                    rfl
                  refine pure_ (i := 4) (N := some 113) (v := ?_) (a' := ?_) #[true, true, true, true, true, false, false, false, false, false, false] rfl rfl (any_of HT_.out (by kernel_rfl)) (fun _ _ _ h => h) (Or.inl ⟨by rfl, ?_⟩) ?_ ?_
                  rotate_left
                  · intro w'
                    go_simp
                    with_reducible rfl
                  rotate_left
                  · simp only [Act.put, List.setIfInBounds_toArray, List.set_cons_zero, List.set_cons_succ, i64_w, i32_w]
                    rfl
                  refine pure_ (i := 5) (N := some 114) (v := ?_) (a' := ?_) #[true, true, true, true, true, true, false, false, false, false, false] rfl rfl (any_of HT_.out (by kernel_rfl)) (fun _ _ _ h => h) (Or.inl ⟨by rfl, ?_⟩) ?_ ?_
                  rotate_left
                  · intro w'
                    go_simp
                    with_reducible rfl
                  rotate_left
                  · simp only [Act.put, List.setIfInBounds_toArray, List.set_cons_zero, List.set_cons_succ, i64_w, i32_w]
                    rfl
                  refine one_ (i := 6) (N := some 115) #[true, true, true, true, true, true, true, false, false, false, false] rfl rfl (one_of HT_.out (by kernel_rfl)) (by decide) (fun K hK => ?_)
                  refine goes_ Tryd.func13 (by kernel_rfl) rfl #[.bool a0, .slice A64 y151.length c64, .int .i32 a2, .slice A66 (l3.drop 1).length (c3 - 1)] (by rfl) rfl rfl (by (try simp only [List.map_toArray, List.map_cons, List.map_nil]); first | done | (rw [show (l3.drop 1).length = (l3.length - 1) from List.length_drop] <;> rfl) | rfl | (simp only [List.length_drop, List.length_take]; rfl)) ?_
                  with_reducible refine (ih kj44 (by have := HJ5.out; have := HJ44.out; omega) a0 (fun k_ => (P1_ k_ ∨ w.heap.size ≤ k_)) _ _ y151 a2 _ _ (l3.drop 1) t157 t158 _ ?side1 ?side2 ?side3 A62.out).mono ?_
                  (case side1 => exact HO155.out)
                  (case side2 => repeat (first | exact (Kd.C_below HR156.out HB.out) | (with_reducible refine Kd.C_alloc ?_ _) | (with_reducible refine Kd.C_drewN ?_ _) | (with_reducible refine Kd.C_drew ?_)))
                  (case side3 => exact HC156.out)
                  rintro e w67 ⟨rfl, hb⟩
                  refine ⟨_, rfl, ?_⟩
                  have n0_ := Aside0.mk (Kd.V_below (by (with_reducible repeat (first | apply Kd.V_alloc | apply Kd.V_drewN | apply Kd.V_drew)); exact HO_1.out) hb)
                  have n1_ := Aside0.mk (Kd.V_below (by (with_reducible repeat (first | apply Kd.V_alloc | apply Kd.V_drewN | apply Kd.V_drew)); exact HO155.out) hb)
                  have n2_ := Aside0.mk (below_step (by repeat (first | (with_reducible first | exact HB.out | apply below_alloc | apply pw_below_drewN | apply below_drew1) | exact HB.out)) hb)
                  clear HO_1
                  clear HO155
                  clear HB
                  have HO_1 := n0_
                  have HO155 := n1_
                  have HB := n2_
                  clear n0_ n1_ n2_
                  (try clear hb)
                  (try clear hb2)
                  (try clear hk)
                  (try clear hi)
                  refine hK.out _ _ trivial (fun hHeld => ?_)
                  clear hK K
                  refine norm_ (a' := ?_) ?_ ?_
                  rotate_left
                  · show Act.put _ (some 115) _ = _
                    simp only [Act.put, List.setIfInBounds_toArray, List.set_cons_zero, List.set_cons_succ, i64_w, i32_w]
                    rfl
                  refine pure_ (i := 7) (N := some 116) (v := ?_) (a' := ?_) #[true, true, true, true, true, true, true, true, false, false, false] rfl rfl (any_of HT_.out (by kernel_rfl)) (fun _ _ _ h => h) (Or.inl ⟨by rfl, ?_⟩) ?_ ?_
                  rotate_left
                  · intro w'
                    go_simp
                    with_reducible rfl
                  rotate_left
                  · simp only [Act.put, List.setIfInBounds_toArray, List.set_cons_zero, List.set_cons_succ, i64_w, i32_w]
                    rfl
                  refine pure_ (i := 8) (N := some 117) (v := ?_) (a' := ?_) #[true, true, true, true, true, true, true, true, true, false, false] rfl rfl (any_of HT_.out (by kernel_rfl)) (fun _ _ _ h => h) (Or.inl ⟨by rfl, ?_⟩) ?_ ?_
                  rotate_left
                  · intro w'
                    go_simp
                    with_reducible rfl
                  rotate_left
                  · simp only [Act.put, List.setIfInBounds_toArray, List.set_cons_zero, List.set_cons_succ, i64_w, i32_w]
                    rfl
                  refine pure_ (i := 9) (N := some 8) (v := ?_) (a' := ?_) #[true, true, true, true, true, true, true, true, true, true, false] rfl rfl (any_of HT_.out (by kernel_rfl)) (fun _ _ _ h => h) (Or.inl ⟨by rfl, ?_⟩) ?_ ?_
                  rotate_left
                  · intro w'
                    go_simp
                    with_reducible rfl
                  rotate_left
                  · simp only [Act.put, List.setIfInBounds_toArray, List.set_cons_zero, List.set_cons_succ, i64_w, i32_w]
                    rfl
                  refine pure_ (i := 10) (N := some 9) (v := ?_) (a' := ?_) #[true, true, true, true, true, true, true, true, true, true, true] rfl rfl (any_of HT_.out (by kernel_rfl)) (fun _ _ _ h => h) (Or.inl ⟨by rfl, ?_⟩) ?_ ?_
                  rotate_left
                  · intro w'
                    go_simp
                    with_reducible rfl
                  rotate_left
                  · simp only [Act.put, List.setIfInBounds_toArray, List.set_cons_zero, List.set_cons_succ, i64_w, i32_w]
                    rfl
                  refine done_ (done_of HT_.out (by kernel_rfl)) ?_
                  try go_wp2
                  go_ret2
                  exact ⟨by first | rfl | (simp [errW_none, errW_some] <;> rfl) | (simp [*, errW_none, errW_some] <;> rfl), by repeat (first | (with_reducible first | exact HB.out | apply below_alloc | apply pw_below_drewN | apply below_drew1) | exact HB.out)⟩
                · rw [if_neg c61] at H
                  exact absurd H (by simp)
              · rw [if_neg c60] at H
                exact absurd H (by simp)

end Go.Proofs.YthicaehcoingeaaDoor.PLK
