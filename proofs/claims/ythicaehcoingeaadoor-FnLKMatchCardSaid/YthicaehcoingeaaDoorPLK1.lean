-- written by gprint.py, a program of this claim's own, by means of the kit's print
import Derived.Test.YthicaehcoingeaaDoorPLK0
namespace Go.Proofs.YthicaehcoingeaaDoor.PLK
open Go.RowKit Go.Proofs.YthicaehcoingeaaDoorW.PrintWords Go.Proofs.YthicaehcoingeaaDoorW.PrintLast Go.Proofs.YthicaehcoingeaaDoorW.PrintMore
attribute [local go_sem] max2_int min2_int max_two min_two max_three min_three max_four min_four   -- for this text's walks alone
set_option linter.unusedVariables false
set_option linter.unusedSimpArgs false

/-! ### laws_lkText: function 12 -/
def laws_lkText.l0 : Nat → List Int → Int → List Int → Int → Option (List Int)
  | 0, _, _, _, _ => none
  | k + 1, x0, x1, x5, x6 => if x6 < (x0.length : Int) then (if x6 < x1 then ((some (([97, 65, 98, 37, 95, 92, 66, 233, 29483, 37, 95, 97, 120] : List Int) : List Int)).bind fun y101 => (if 0 ≤ x6 then (if 0 ≤ (Int.tmod (rd x0 x6) 13) then (if (Int.tmod (rd x0 x6) 13) < (y101.length : Int) then (if x5.length < 35184372088832 then (laws_lkText.l0 k x0 x1 (x5 ++ [rd y101 (Int.tmod (rd x0 x6) 13)]) (wrap64 (x6 + 1))) else (none)) else (none)) else (none)) else (none))) else (some x5)) else (some x5)
def laws_lkText.f (k : Nat) (l0 : List Int) (a1 : Int) : Option (List Int) := laws_lkText.l0 k l0 a1 ([] : List Int) 0
theorem laws_lkText.mono_l : ∀ k, (∀ y0 y1 y2 y3, LeO (laws_lkText.l0 k y0 y1 y2 y3) (laws_lkText.l0 (k + 1) y0 y1 y2 y3))
  | 0 => fun _ _ _ _ r h => by simp [laws_lkText.l0] at h
  | k + 1 => by
    have ih0 := laws_lkText.mono_l k
    · intro y0 y1 y2 y3
      unfold laws_lkText.l0
      repeat' first
      | (with_reducible exact ih0 _ _ _ _)
      | (with_reducible exact LeO.refl _)
      | (with_reducible exact LeO.none _)
      | (with_reducible refine LeO.ite ?_ ?_)
      | (with_reducible refine LeO.bind ?_ (fun _ => ?_))
      | exact ih0 _ _ _ _
      | exact LeO.none _
      | refine LeO.ite ?_ ?_
      | refine LeO.bind ?_ (fun _ => ?_)
theorem laws_lkText.mono : ∀ a0 a1 k, LeO (laws_lkText.f k a0 a1) (laws_lkText.f (k + 1) a0 a1) := by
  intro a0 a1 k
  have ih0 := laws_lkText.mono_l k
  unfold laws_lkText.f
  repeat' first
      | (with_reducible exact ih0 _ _ _ _)
      | (with_reducible exact LeO.refl _)
      | (with_reducible exact LeO.none _)
      | (with_reducible refine LeO.ite ?_ ?_)
      | (with_reducible refine LeO.bind ?_ (fun _ => ?_))
      | exact ih0 _ _ _ _
      | exact LeO.none _
      | refine LeO.ite ?_ ?_
      | refine LeO.bind ?_ (fun _ => ?_)
set_option maxHeartbeats 8000000 in
set_option maxRecDepth 100000 in
theorem laws_lkText.calls (k : Nat) (A0 : Option Addr) (c0 : Nat) (l0 : List Int) (a1 : Int) (r : List Int) (w : World) (hr0 : Kd.C (Kd.int .u8) w A0 l0.length l0) (hc0 : l0.length ≤ c0) (h : laws_lkText.f k l0 a1 = some r) :
    Calls Tryd.prog 12 #[.slice A0 l0.length c0, .int .i64 a1] w fun e w' => ∃ v0_ : Value, e = .returned (v0_) ∧ Kd.R (Kd.int .i32) 21 w' w.heap.size (fun _ => True) v0_ r ∧ Below w.heap.size w w' := by
  have HR0 := Aside0.mk hr0
  have HC0 := Aside0.mk hc0
  clear hr0 hc0
  have HB := Aside0.mk (Below.refl w.heap.size w)
  have H : (laws_lkText.l0 k l0 a1 ([] : List Int) 0) = some r := h
  clear h
  have H' := Aside0.mk H
  clear H
  go_enter Tryd.func12, Tryd.ntmps12
  go_wp2
  go_loopg [5, 6] k (fun kq v5 v6 w' => ∃ (x5_1 : List Int) (x6_1 : Int), v6 = .int .i64 x6_1 ∧ Aside0 (laws_lkText.l0 kq l0 a1 x5_1 x6_1 = some r) ∧ Aside0 (kq ≤ k) ∧ Aside0 (Kd.R (Kd.int .i32) 21 w' w.heap.size (fun _ => True) v5 x5_1) ∧ Aside0 (Below w.heap.size w w'))
  case atStart => exact ⟨(([] : List Int)), (0), (by first | rfl | (simp; done) | (simp [*]; done)), H', ⟨Nat.le_refl _⟩, ⟨by first | exact Kd.R_nil _ _ _ _ _ | exact Kd.N_nil _ _ _ _ _ | exact Kd.V_nil _ _ _ _ _ | exact Kd.Q_nil _ _ _ _ _ | exact Kd.S_nil _ _ _ _ _⟩, ⟨by repeat (first | (with_reducible first | exact HB.out | apply below_alloc | apply pw_below_drewN | apply below_drew1) | exact HB.out)⟩⟩
  case round =>
    clear H'
    try clear c1
    try clear p2
    obtain ⟨x5_1, x6_1, rfl, HA, HK1, HO_5, HB⟩ := hrel
    cases gk with
    | zero => exact absurd HA.out (by simp [laws_lkText.l0])
    | succ k1 =>
      have H := HA.out
      clear HA
      simp only [laws_lkText.l0] at H
      by_cases c3 : x6_1 < (l0.length : Int)
      · rw [if_pos c3] at H
        have c3b0 : decide (x6_1 < (l0.length : Int)) = true := decide_eq_true c3
        clear c3
        by_cases c4 : x6_1 < a1
        · rw [if_pos c4] at H
          have c4b0 : decide (x6_1 < a1) = true := decide_eq_true c4
          clear c4
          obtain ⟨y101, hy101⟩ : ∃ y_ : List Int, y_ = (([97, 65, 98, 37, 95, 92, 66, 233, 29483, 37, 95, 97, 120] : List Int)) := ⟨_, rfl⟩
          replace H : (if 0 ≤ x6_1 then (if 0 ≤ (Int.tmod (rd l0 x6_1) 13) then (if (Int.tmod (rd l0 x6_1) 13) < (y101.length : Int) then (if x5_1.length < 35184372088832 then (laws_lkText.l0 k1 l0 a1 (x5_1 ++ [rd y101 (Int.tmod (rd l0 x6_1) 13)]) (wrap64 (x6_1 + 1))) else (none)) else (none)) else (none)) else (none)) = some r := by first | (rw [hy101]; with_reducible exact H) | (have H2_ := (Option.bind_some _ _).symm.trans H; rw [hy101]; with_reducible exact H2_) | (have H2_ := (Option.bind_some _ _).symm.trans H; with_reducible exact H2_) | with_reducible exact H | (rw [hy101]; exact H) | exact H
          have Ny101 := Aside0.mk hy101
          clear hy101
          by_cases c5 : 0 ≤ x6_1
          · rw [if_pos c5] at H
            have c5b0 : decide (0 ≤ x6_1) = true := decide_eq_true c5
            clear c5
            obtain ⟨ji6, hji6⟩ : ∃ j_ : Int, (Int.tmod (rd l0 x6_1) 13) = j_ := ⟨_, rfl⟩
            replace H : (if 0 ≤ (ji6) then (if (ji6) < (y101.length : Int) then (if x5_1.length < 35184372088832 then (laws_lkText.l0 k1 l0 a1 (x5_1 ++ [rd y101 (ji6)]) (wrap64 (x6_1 + 1))) else (none)) else (none)) else (none)) = some r := by first | (rw [hji6] at H; exact H) | (simp only [hji6] at H ⊢; exact H)
            by_cases c7 : 0 ≤ (ji6)
            · rw [if_pos c7] at H
              have c7b0 : decide (0 ≤ (ji6)) = true := decide_eq_true c7
              clear c7
              by_cases c8 : (ji6) < (y101.length : Int)
              · rw [if_pos c8] at H
                have c8b0 : decide ((ji6) < (y101.length : Int)) = true := decide_eq_true c8
                clear c8
                by_cases c9 : x5_1.length < 35184372088832
                · rw [if_pos c9] at H
                  have LMc9 := Aside0.mk c9
                  clear c9
                  obtain ⟨y106, hy106⟩ : ∃ y_ : List Int, y_ = (x5_1 ++ [rd y101 (ji6)]) := ⟨_, rfl⟩
                  replace H : (laws_lkText.l0 k1 l0 a1 y106 (wrap64 (x6_1 + 1))) = some r := by first | (rw [hy106]; with_reducible exact H) | (have H2_ := (Option.bind_some _ _).symm.trans H; rw [hy106]; with_reducible exact H2_) | (have H2_ := (Option.bind_some _ _).symm.trans H; with_reducible exact H2_) | with_reducible exact H | (rw [hy106]; exact H) | exact H
                  have Ny106 := Aside0.mk hy106
                  clear hy106
                  have H' := Aside0.mk H
                  clear H
                  go_wp2_with (first | ((with_reducible refine gate_dst (N := 19) rfl ?_); refine Kd.R_lit (Kd.int .i32) _ 21 ?hg (N := 19) ?hd (xs := ([97, 65, 98, 37, 95, 92, 66, 233, 29483, 37, 95, 97, 120] : List Int)) (inner := [.int .i32 97, .int .i32 65, .int .i32 98, .int .i32 37, .int .i32 95, .int .i32 92, .int .i32 66, .int .i32 233, .int .i32 29483, .int .i32 37, .int .i32 95, .int .i32 97, .int .i32 120]) (ok := fun _ => True) (okp := fun _ => True) ?hr ?hp (fun _ hk => hk) trivial (Below.refl _ _) (Nat.le_refl _) (by simp) ?_; (case hd => rfl); (case hg => rfl); (case hr => first | (go_simp; done) | (go_simp; rfl)); (case hp => exact (Reps.one (show Kd.M (Kd.int .i32) _ _ _ 97 [.int .i32 97] from rfl) (Reps.one (show Kd.M (Kd.int .i32) _ _ _ 65 [.int .i32 65] from rfl) (Reps.one (show Kd.M (Kd.int .i32) _ _ _ 98 [.int .i32 98] from rfl) (Reps.one (show Kd.M (Kd.int .i32) _ _ _ 37 [.int .i32 37] from rfl) (Reps.one (show Kd.M (Kd.int .i32) _ _ _ 95 [.int .i32 95] from rfl) (Reps.one (show Kd.M (Kd.int .i32) _ _ _ 92 [.int .i32 92] from rfl) (Reps.one (show Kd.M (Kd.int .i32) _ _ _ 66 [.int .i32 66] from rfl) (Reps.one (show Kd.M (Kd.int .i32) _ _ _ 233 [.int .i32 233] from rfl) (Reps.one (show Kd.M (Kd.int .i32) _ _ _ 29483 [.int .i32 29483] from rfl) (Reps.one (show Kd.M (Kd.int .i32) _ _ _ 37 [.int .i32 37] from rfl) (Reps.one (show Kd.M (Kd.int .i32) _ _ _ 95 [.int .i32 95] from rfl) (Reps.one (show Kd.M (Kd.int .i32) _ _ _ 97 [.int .i32 97] from rfl) (Reps.one (show Kd.M (Kd.int .i32) _ _ _ 120 [.int .i32 120] from rfl) (Reps.none _ _))))))))))))))); intro v102 w10 ho11 hb hg_ hnew_; clear hg_ hnew_; (first | rw [← Ny101.out] at ho11 | (simp only [Int.reduceToNat] at ho11; rw [← Ny101.out] at ho11)); have n0_ := Aside0.mk (Kd.R_elder' (by (with_reducible repeat (first | apply Kd.R_alloc | apply Kd.R_drewN | apply Kd.R_drew)); exact HO_5.out) (Kd.R_base ho11) hb); have n1_ := Aside0.mk (Kd.R_lower (Kd.R_new' ho11 (Kd.R_lt (by (with_reducible repeat (first | apply Kd.R_alloc | apply Kd.R_drewN | apply Kd.R_drew)); exact HO_5.out))) (below_size (by repeat (first | (with_reducible first | exact HB.out | apply below_alloc | apply pw_below_drewN | apply below_drew1) | exact HB.out)))); have n2_ := Aside0.mk (below_step (by repeat (first | (with_reducible first | exact HB.out | apply below_alloc | apply pw_below_drewN | apply below_drew1) | exact HB.out)) hb); clear HO_5; clear HB; have HO_5 := n0_; have HO103 := n1_; have HB := n2_; clear n0_ n1_ n2_; clear hb ho11; have p104 : 0 ≤ (x6_1 : Int) := of_decide_eq_true (by first | (with_reducible assumption) | assumption); have q104 : x6_1 < (l0.length : Int) := of_decide_eq_true (by first | (with_reducible assumption) | assumption); obtain ⟨ad104, e104, hx104_0⟩ := Kd.at_int HR0.out x6_1 p104 q104; cases e104; replace hx104_0 := (HB.out.cell (World.block_lt_of_cell? w _ hx104_0)).trans hx104_0; replace p104 := eq_true p104; replace q104 := eq_true q104; obtain ⟨Ao12, co12, eo12⟩ := Kd.R_slice HO103.out; subst eo12; have p105 : 0 ≤ ((ji6) : Int) := of_decide_eq_true (by first | (with_reducible assumption) | assumption); have q105 : (ji6) < (y101.length : Int) := of_decide_eq_true (by first | (with_reducible assumption) | assumption); obtain ⟨ad105, e105, hx105_0⟩ := Kd.at_int (Kd.R_reads' HO103.out).2.2 (ji6) p105 q105; cases e105; replace p105 := eq_true p105; replace q105 := eq_true q105) | ((with_reducible refine gate_builtin (b := .append) (xs := #[.tmp 18, .tmp 27]) rfl ?_); at_builtin; refine Kd.R_append (Kd.int .i32) (w0 := w) w.heap.size rfl (.tmp 18) (.tmp 27) 27 21 (.int .i32 0) 4 rfl Tryd.underlying27 info21 rfl (by decide) (by omega) u5 x5_1 (rd y101 (ji6)) [.int .i32 (rd y101 (ji6))] (fun k_ => some k_ ≠ (.slice (some ad105) y101.length co12 : Value).ownBlock) (fun _ => False) rfl rfl ?aP (fun _ hk => hk.elim) ?aF ?aO ?aB ?aS ?aL ?_; (case aP => exact rfl); (case aB => exact (by repeat (first | (with_reducible first | exact HB.out | apply below_alloc | apply pw_below_drewN | apply below_drew1) | exact HB.out))); (case aF => exact (fun k_ hk => Kd.fresh' (Kd.R_lt (by (with_reducible repeat (first | apply Kd.R_alloc | apply Kd.R_drewN | apply Kd.R_drew)); exact HO103.out)) k_ hk)); (case aO => exact (by (with_reducible repeat (first | apply Kd.R_alloc | apply Kd.R_drewN | apply Kd.R_drew)); exact Kd.R_mono HO_5.out (fun _ hk => hk.2))); (case aS => exact (below_size (by repeat (first | (with_reducible first | exact HB.out | apply below_alloc | apply pw_below_drewN | apply below_drew1) | exact HB.out)))); (case aL => have := LMc9.out; omega); intro v107 w13 ho hb hg hat; rw [← Ny106.out] at ho; have n0_ := Aside0.mk (Kd.R_after (ok := (fun _ => True)) (by (with_reducible repeat (first | apply Kd.R_alloc | apply Kd.R_drewN | apply Kd.R_drew)); exact HO103.out) hg hat); have n1_ := Aside0.mk (hb); have n2_ := Aside0.mk (ho); clear HO103; clear HB; clear HO_5; have HO103 := n0_; have HB := n1_; have HO108 := n2_; clear n0_ n1_ n2_; clear ho hb hg hat))
                  go_roundg k1
                  case measure => have := HK1.out; omega
                  case rel => exact ⟨(y106), (wrap64 (x6_1 + 1)), (by first | rfl | (simp; done) | (simp [*]; done)), H', ⟨by have := HK1.out; omega⟩, ⟨by (with_reducible repeat (first | apply Kd.R_alloc | apply Kd.R_drewN | apply Kd.R_drew)); exact Kd.R_mono HO108.out (fun _ hk => trivial)⟩, ⟨by repeat (first | (with_reducible first | exact HB.out | apply below_alloc | apply pw_below_drewN | apply below_drew1) | exact HB.out)⟩⟩
                · rw [if_neg c9] at H
                  exact absurd H (by simp)
              · rw [if_neg c8] at H
                exact absurd H (by simp)
            · rw [if_neg c7] at H
              exact absurd H (by simp)
          · rw [if_neg c5] at H
            exact absurd H (by simp)
        · rw [if_neg c4] at H
          have c4b0 : decide (x6_1 < a1) = false := decide_eq_false c4
          clear c4
          obtain rfl := Option.some.inj H
          go_wp2
          go_ret
          exact ⟨_, by first | rfl | (simp [errW_none, errW_some] <;> rfl) | (simp [*, errW_none, errW_some] <;> rfl), by (with_reducible repeat (first | apply Kd.R_alloc | apply Kd.R_drewN | apply Kd.R_drew)); exact HO_5.out, by repeat (first | (with_reducible first | exact HB.out | apply below_alloc | apply pw_below_drewN | apply below_drew1) | exact HB.out)⟩
      · rw [if_neg c3] at H
        have c3b0 : decide (x6_1 < (l0.length : Int)) = false := decide_eq_false c3
        clear c3
        obtain rfl := Option.some.inj H
        go_wp2
        go_ret
        exact ⟨_, by first | rfl | (simp [errW_none, errW_some] <;> rfl) | (simp [*, errW_none, errW_some] <;> rfl), by (with_reducible repeat (first | apply Kd.R_alloc | apply Kd.R_drewN | apply Kd.R_drew)); exact HO_5.out, by repeat (first | (with_reducible first | exact HB.out | apply below_alloc | apply pw_below_drewN | apply below_drew1) | exact HB.out)⟩

/-! ### spec_lkFold: function 40 -/
def spec_lkFold.f (a0 : Bool) (a1 : Int) : Option (Int) := if a0 = true then (if a1 ≥ 65 then (if a1 ≤ 90 then (some (wrap32 (a1 + 32))) else (some a1)) else (some a1)) else (some a1)
set_option maxHeartbeats 8000000 in
set_option maxRecDepth 100000 in
theorem spec_lkFold.calls (a0 : Bool) (a1 : Int) (r : Int) (w : World) (h : spec_lkFold.f a0 a1 = some r) :
    Calls Tryd.prog 40 #[.bool a0, .int .i32 a1] w fun e w' => e = .returned (.int .i32 r) ∧ Drawn0 w w' := by
  have H : (if a0 = true then (if a1 ≥ 65 then (if a1 ≤ 90 then (some (wrap32 (a1 + 32))) else (some a1)) else (some a1)) else (some a1)) = some r := h
  clear h
  by_cases c3 : a0 = true
  · subst c3
    have H1 : (if a1 ≥ 65 then (if a1 ≤ 90 then (some (wrap32 (a1 + 32))) else (some a1)) else (some a1)) = some r := by rw [if_pos rfl] at H; exact H
    clear H
    have H := H1
    clear H1
    by_cases c4 : a1 ≥ 65
    · rw [if_pos c4] at H
      have c4b0 : decide (65 ≤ a1) = true := decide_eq_true c4
      clear c4
      by_cases c5 : a1 ≤ 90
      · rw [if_pos c5] at H
        have c5b0 : decide (a1 ≤ 90) = true := decide_eq_true c5
        clear c5
        obtain rfl := Option.some.inj H
        go_enter Tryd.func40, Tryd.ntmps40
        go_wp2
        go_ret
        exact ⟨by first | rfl | (simp; done) | (simp [*]; done), by repeat (first | exact Drawn0.refl _ | apply Drawn0.step)⟩
      · rw [if_neg c5] at H
        have c5b0 : decide (a1 ≤ 90) = false := decide_eq_false c5
        clear c5
        obtain rfl := Option.some.inj H
        go_enter Tryd.func40, Tryd.ntmps40
        go_wp2
        go_ret
        exact ⟨by first | rfl | (simp; done) | (simp [*]; done), by repeat (first | exact Drawn0.refl _ | apply Drawn0.step)⟩
    · rw [if_neg c4] at H
      have c4b0 : decide (65 ≤ a1) = false := decide_eq_false c4
      clear c4
      obtain rfl := Option.some.inj H
      go_enter Tryd.func40, Tryd.ntmps40
      go_wp2
      go_ret
      exact ⟨by first | rfl | (simp; done) | (simp [*]; done), by repeat (first | exact Drawn0.refl _ | apply Drawn0.step)⟩
  · replace c3 := Bool.eq_false_iff.mpr c3
    subst c3
    have H1 : (some a1) = some r := by rw [if_neg (show ¬ (false = true) by decide)] at H; exact H
    clear H
    have H := H1
    clear H1
    obtain rfl := Option.some.inj H
    go_enter Tryd.func40, Tryd.ntmps40
    go_wp2
    go_ret
    exact ⟨by first | rfl | (simp; done) | (simp [*]; done), by repeat (first | exact Drawn0.refl _ | apply Drawn0.step)⟩

end Go.Proofs.YthicaehcoingeaaDoor.PLK
