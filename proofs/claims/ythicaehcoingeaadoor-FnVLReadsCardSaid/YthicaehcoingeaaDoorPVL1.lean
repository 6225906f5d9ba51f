-- written by gprint.py, a program of this claim's own, by means of the kit's print
import Derived.Test.YthicaehcoingeaaDoorPVL0
namespace Go.Proofs.YthicaehcoingeaaDoor.PVL
open Go.RowKit Go.Proofs.YthicaehcoingeaaDoorW.PrintWords Go.Proofs.YthicaehcoingeaaDoorW.PrintLast Go.Proofs.YthicaehcoingeaaDoorW.PrintMore
attribute [local go_sem] max2_int min2_int max_two min_two max_three min_three max_four min_four   -- for this text's walks alone
set_option linter.unusedVariables false
set_option linter.unusedSimpArgs false

/-! ### spec_VLSize: function 16 -/
def spec_VLSize.f (a0 : Int) : Option (Int) := (some (([0, 1, 1, 2, 2, 3, 3, 4, 4, 8, 8, 4, 8, 6, 6] : List Int) : List Int)).bind fun y101 => (if 0 ≤ a0 then (if a0 < (y101.length : Int) then (some (rd y101 a0)) else (none)) else (none))
set_option maxHeartbeats 8000000 in
set_option maxRecDepth 100000 in
theorem spec_VLSize.calls (a0 : Int) (r : Int) (w : World) (h : spec_VLSize.f a0 = some r) :
    Calls Tryd.prog 16 #[.int .i64 a0] w fun e w' => e = .returned (.int .i64 r) ∧ Below w.heap.size w w' := by
  have HB := Aside0.mk (Below.refl w.heap.size w)
  have H : ((some (([0, 1, 1, 2, 2, 3, 3, 4, 4, 8, 8, 4, 8, 6, 6] : List Int) : List Int)).bind fun y101 => (if 0 ≤ a0 then (if a0 < (y101.length : Int) then (some (rd y101 a0)) else (none)) else (none))) = some r := h
  clear h
  obtain ⟨y101, hy101⟩ : ∃ y_ : List Int, y_ = (([0, 1, 1, 2, 2, 3, 3, 4, 4, 8, 8, 4, 8, 6, 6] : List Int)) := ⟨_, rfl⟩
  replace H : (if 0 ≤ a0 then (if a0 < (y101.length : Int) then (some (rd y101 a0)) else (none)) else (none)) = some r := by first | (rw [hy101]; with_reducible exact H) | (have H2_ := (Option.bind_some _ _).symm.trans H; rw [hy101]; with_reducible exact H2_) | (have H2_ := (Option.bind_some _ _).symm.trans H; with_reducible exact H2_) | with_reducible exact H | (rw [hy101]; exact H) | exact H
  have Ny101 := Aside0.mk hy101
  clear hy101
  by_cases c2 : 0 ≤ a0
  · rw [if_pos c2] at H
    have c2b0 : decide (0 ≤ a0) = true := decide_eq_true c2
    clear c2
    by_cases c3 : a0 < (y101.length : Int)
    · rw [if_pos c3] at H
      have c3b0 : decide (a0 < (y101.length : Int)) = true := decide_eq_true c3
      clear c3
      obtain rfl := Option.some.inj H
      go_enter Tryd.func16, Tryd.ntmps16
      go_wp2_with (first | ((with_reducible refine gate_dst (N := 3) rfl ?_); refine Kd.R_lit (Kd.int .i64) _ 3 ?hg (N := 3) ?hd (xs := ([0, 1, 1, 2, 2, 3, 3, 4, 4, 8, 8, 4, 8, 6, 6] : List Int)) (inner := [.int .i64 0, .int .i64 1, .int .i64 1, .int .i64 2, .int .i64 2, .int .i64 3, .int .i64 3, .int .i64 4, .int .i64 4, .int .i64 8, .int .i64 8, .int .i64 4, .int .i64 8, .int .i64 6, .int .i64 6]) (ok := fun _ => True) (okp := fun _ => True) ?hr ?hp (fun _ hk => hk) trivial (Below.refl _ _) (Nat.le_refl _) (by simp) ?_; (case hd => rfl); (case hg => rfl); (case hr => first | (go_simp; done) | (go_simp; rfl)); (case hp => exact (Reps.one (show Kd.M (Kd.int .i64) _ _ _ 0 [.int .i64 0] from rfl) (Reps.one (show Kd.M (Kd.int .i64) _ _ _ 1 [.int .i64 1] from rfl) (Reps.one (show Kd.M (Kd.int .i64) _ _ _ 1 [.int .i64 1] from rfl) (Reps.one (show Kd.M (Kd.int .i64) _ _ _ 2 [.int .i64 2] from rfl) (Reps.one (show Kd.M (Kd.int .i64) _ _ _ 2 [.int .i64 2] from rfl) (Reps.one (show Kd.M (Kd.int .i64) _ _ _ 3 [.int .i64 3] from rfl) (Reps.one (show Kd.M (Kd.int .i64) _ _ _ 3 [.int .i64 3] from rfl) (Reps.one (show Kd.M (Kd.int .i64) _ _ _ 4 [.int .i64 4] from rfl) (Reps.one (show Kd.M (Kd.int .i64) _ _ _ 4 [.int .i64 4] from rfl) (Reps.one (show Kd.M (Kd.int .i64) _ _ _ 8 [.int .i64 8] from rfl) (Reps.one (show Kd.M (Kd.int .i64) _ _ _ 8 [.int .i64 8] from rfl) (Reps.one (show Kd.M (Kd.int .i64) _ _ _ 4 [.int .i64 4] from rfl) (Reps.one (show Kd.M (Kd.int .i64) _ _ _ 8 [.int .i64 8] from rfl) (Reps.one (show Kd.M (Kd.int .i64) _ _ _ 6 [.int .i64 6] from rfl) (Reps.one (show Kd.M (Kd.int .i64) _ _ _ 6 [.int .i64 6] from rfl) (Reps.none _ _))))))))))))))))); intro v102 w4 ho5 hb hg_ hnew_; clear hg_ hnew_; (first | rw [← Ny101.out] at ho5 | (simp only [Int.reduceToNat] at ho5; rw [← Ny101.out] at ho5)); have n0_ := Aside0.mk (Kd.R_lower ho5 (below_size (by repeat (first | (with_reducible first | exact HB.out | apply below_alloc | apply pw_below_drewN | apply below_drew1) | exact HB.out)))); have n1_ := Aside0.mk (below_step (by repeat (first | (with_reducible first | exact HB.out | apply below_alloc | apply pw_below_drewN | apply below_drew1) | exact HB.out)) hb); clear HB; have HO103 := n0_; have HB := n1_; clear n0_ n1_; clear hb ho5; obtain ⟨Ao6, co6, eo6⟩ := Kd.R_slice HO103.out; subst eo6; have p104 : 0 ≤ (a0 : Int) := of_decide_eq_true (by first | (with_reducible assumption) | assumption); have q104 : a0 < (y101.length : Int) := of_decide_eq_true (by first | (with_reducible assumption) | assumption); obtain ⟨ad104, e104, hx104_0⟩ := Kd.at_int (Kd.R_reads' HO103.out).2.2 a0 p104 q104; cases e104; replace p104 := eq_true p104; replace q104 := eq_true q104))
      go_ret
      exact ⟨by first | rfl | (simp [errW_none, errW_some] <;> rfl) | (simp [*, errW_none, errW_some] <;> rfl), by repeat (first | (with_reducible first | exact HB.out | apply below_alloc | apply pw_below_drewN | apply below_drew1) | exact HB.out)⟩
    · rw [if_neg c3] at H
      exact absurd H (by simp)
  · rw [if_neg c2] at H
    exact absurd H (by simp)

/-! ### spec_VLBytes: function 11 -/
def spec_VLBytes.l0 : Nat → Int → Int → List Int → Int → Option (List Int)
  | 0, _, _, _, _ => none
  | k + 1, x0, x1, x5, x6 => (spec_VLSize.f x0).bind fun t105 => (if x6 < t105 then (if 0 ≤ (IntKind.u64.wrap (wrap64 (8 * x6))) then (if x5.length < 140737488355328 then (spec_VLBytes.l0 k x0 x1 (x5 ++ [(shr .u64 x1 (IntKind.u64.wrap (wrap64 (8 * x6)))) % 256]) (wrap64 (x6 + 1))) else (none)) else (none)) else (some x5))
def spec_VLBytes.f (k : Nat) (a0 : Int) (a1 : Int) : Option (List Int) := spec_VLBytes.l0 k a0 a1 ([] : List Int) 0
theorem spec_VLBytes.mono_l : ∀ k, (∀ y0 y1 y2 y3, LeO (spec_VLBytes.l0 k y0 y1 y2 y3) (spec_VLBytes.l0 (k + 1) y0 y1 y2 y3))
  | 0 => fun _ _ _ _ r h => by simp [spec_VLBytes.l0] at h
  | k + 1 => by
    have ih0 := spec_VLBytes.mono_l k
    · intro y0 y1 y2 y3
      unfold spec_VLBytes.l0
      repeat' first
      | (with_reducible exact ih0 _ _ _ _)
      | (with_reducible exact LeO.refl _)
      | (with_reducible exact LeO.none _)
      | (with_reducible refine LeO.ite ?_ ?_)
      | (with_reducible refine LeO.bind ?_ (fun _ => ?_))
      | exact ih0 _ _ _ _
      | exact LeO.none _
      | refine LeO.ite ?_ ?_
      | refine LeO.bind ?_ (fun _ => ?_)
theorem spec_VLBytes.mono : ∀ a0 a1 k, LeO (spec_VLBytes.f k a0 a1) (spec_VLBytes.f (k + 1) a0 a1) := by
  intro a0 a1 k
  have ih0 := spec_VLBytes.mono_l k
  unfold spec_VLBytes.f
  repeat' first
      | (with_reducible exact ih0 _ _ _ _)
      | (with_reducible exact LeO.refl _)
      | (with_reducible exact LeO.none _)
      | (with_reducible refine LeO.ite ?_ ?_)
      | (with_reducible refine LeO.bind ?_ (fun _ => ?_))
      | exact ih0 _ _ _ _
      | exact LeO.none _
      | refine LeO.ite ?_ ?_
      | refine LeO.bind ?_ (fun _ => ?_)
set_option maxHeartbeats 8000000 in
set_option maxRecDepth 100000 in
theorem spec_VLBytes.calls (k : Nat) (a0 : Int) (a1 : Int) (r : List Int) (w : World) (h : spec_VLBytes.f k a0 a1 = some r) :
    Calls Tryd.prog 11 #[.int .i64 a0, .int .u64 a1] w fun e w' => ∃ v0_ : Value, e = .returned (v0_) ∧ Kd.R (Kd.int .u8) 5 w' w.heap.size (fun _ => True) v0_ r ∧ Below w.heap.size w w' := by
  have HB := Aside0.mk (Below.refl w.heap.size w)
  have H : (spec_VLBytes.l0 k a0 a1 ([] : List Int) 0) = some r := h
  clear h
  have H' := Aside0.mk H
  clear H
  go_enter Tryd.func11, Tryd.ntmps11
  go_wp2
  go_loopg [5, 6] k (fun kq v5 v6 w' => ∃ (x5_1 : List Int) (x6_1 : Int), v6 = .int .i64 x6_1 ∧ Aside0 (spec_VLBytes.l0 kq a0 a1 x5_1 x6_1 = some r) ∧ Aside0 (kq ≤ k) ∧ Aside0 (Kd.R (Kd.int .u8) 5 w' w.heap.size (fun _ => True) v5 x5_1) ∧ Aside0 (Below w.heap.size w w'))
  case atStart => exact ⟨(([] : List Int)), (0), (by first | rfl | (simp; done) | (simp [*]; done)), H', ⟨Nat.le_refl _⟩, ⟨by first | exact Kd.R_nil _ _ _ _ _ | exact Kd.N_nil _ _ _ _ _ | exact Kd.V_nil _ _ _ _ _ | exact Kd.Q_nil _ _ _ _ _ | exact Kd.S_nil _ _ _ _ _⟩, ⟨by repeat (first | (with_reducible first | exact HB.out | apply below_alloc | apply pw_below_drewN | apply below_drew1) | exact HB.out)⟩⟩
  case round =>
    clear H'
    try clear c1
    try clear p2
    obtain ⟨x5_1, x6_1, rfl, HA, HK1, HO_5, HB⟩ := hrel
    cases gk with
    | zero => exact absurd HA.out (by simp [spec_VLBytes.l0])
    | succ k1 =>
      have H := HA.out
      clear HA
      simp only [spec_VLBytes.l0] at H
      replace H := Option.bind_eq_some_iff.mp H
      obtain ⟨t105, A30, H⟩ := H
      replace H : (if x6_1 < t105 then (if 0 ≤ (IntKind.u64.wrap (wrap64 (8 * x6_1))) then (if x5_1.length < 140737488355328 then (spec_VLBytes.l0 k1 a0 a1 (x5_1 ++ [(shr .u64 a1 (IntKind.u64.wrap (wrap64 (8 * x6_1)))) % 256]) (wrap64 (x6_1 + 1))) else (none)) else (none)) else (some x5_1)) = some r := H
      have A3 := Aside0.mk A30
      clear A30
      by_cases c4 : x6_1 < t105
      · rw [if_pos c4] at H
        have c4b0 : decide (x6_1 < t105) = true := decide_eq_true c4
        clear c4
        obtain ⟨ji5, hji5⟩ : ∃ j_ : Int, (IntKind.u64.wrap (wrap64 (8 * x6_1))) = j_ := ⟨_, rfl⟩
        replace H : (if 0 ≤ (ji5) then (if x5_1.length < 140737488355328 then (spec_VLBytes.l0 k1 a0 a1 (x5_1 ++ [(shr .u64 a1 (ji5)) % 256]) (wrap64 (x6_1 + 1))) else (none)) else (none)) = some r := by first | (rw [hji5] at H; exact H) | (simp only [hji5] at H ⊢; exact H)
        (try rw [hji5] at A3)
        by_cases c6 : 0 ≤ (ji5)
        · rw [if_pos c6] at H
          have c6b0 := eq_true c6
          have c6b1 : decide (0 ≤ (ji5)) = true := decide_eq_true c6
          clear c6
          obtain ⟨ji7, hji7⟩ : ∃ j_ : Int, (shr .u64 a1 (ji5)) = j_ := ⟨_, rfl⟩
          replace H : (if x5_1.length < 140737488355328 then (spec_VLBytes.l0 k1 a0 a1 (x5_1 ++ [(ji7) % 256]) (wrap64 (x6_1 + 1))) else (none)) = some r := by first | (rw [hji7] at H; exact H) | (simp only [hji7] at H ⊢; exact H)
          (try rw [hji7] at A3)
          have hji7_ : (a1 / 2 ^ min (ji5).toNat 64) = ji7 := hji7
          have hji7z : (ji5) ≤ 64 → (a1 / 2 ^ (ji5).toNat) = ji7 := shr_small hji7
          by_cases c8 : x5_1.length < 140737488355328
          · rw [if_pos c8] at H
            have LMc8 := Aside0.mk c8
            clear c8
            obtain ⟨y106, hy106⟩ : ∃ y_ : List Int, y_ = (x5_1 ++ [(ji7) % 256]) := ⟨_, rfl⟩
            replace H : (spec_VLBytes.l0 k1 a0 a1 y106 (wrap64 (x6_1 + 1))) = some r := by first | (rw [hy106]; with_reducible exact H) | (have H2_ := (Option.bind_some _ _).symm.trans H; rw [hy106]; with_reducible exact H2_) | (have H2_ := (Option.bind_some _ _).symm.trans H; with_reducible exact H2_) | with_reducible exact H | (rw [hy106]; exact H) | exact H
            have Ny106 := Aside0.mk hy106
            clear hy106
            have H' := Aside0.mk H
            clear H
            go_wp2_with (first | ((with_reducible refine gate_callee (f := 16) rfl ?_); refine goesL_ (some 9) rfl rfl Tryd.func16 (by kernel_rfl) rfl #[.int .i64 a0] rfl (by (try simp only [List.map_toArray, List.map_cons, List.map_nil]); first | done | rfl | (simp only [List.length_drop, List.length_take]; rfl)) ?_; (with_reducible refine (spec_VLSize.calls a0 t105 _ A3.out).mono ?_); rintro e w9 ⟨rfl, hb⟩; refine ⟨_, rfl, ?_⟩; have n0_ := Aside0.mk (Kd.R_below (by (with_reducible repeat (first | apply Kd.R_alloc | apply Kd.R_drewN | apply Kd.R_drew)); exact HO_5.out) hb); have n1_ := Aside0.mk (below_step (by repeat (first | (with_reducible first | exact HB.out | apply below_alloc | apply pw_below_drewN | apply below_drew1) | exact HB.out)) hb); clear HO_5; clear HB; have HO_5 := n0_; have HB := n1_; clear n0_ n1_; (try clear hb); (try clear hb2); (try clear hk); (try clear hi)) | ((with_reducible refine gate_builtin (b := .append) (xs := #[.tmp 13, .tmp 20]) rfl ?_); at_builtin; refine Kd.R_append (Kd.int .u8) (w0 := w) w.heap.size rfl (.tmp 13) (.tmp 20) 23 5 (.int .u8 0) 1 rfl Tryd.underlying23 info5 rfl (by decide) (by omega) u5 x5_1 ((ji7) % 256) [.int .u8 ((ji7) % 256)] (fun _ => True) (fun _ => False) rfl rfl ?aP (fun _ hk => hk.elim) ?aF ?aO ?aB ?aS ?aL ?_; (case aP => exact rfl); (case aB => exact (by repeat (first | (with_reducible first | exact HB.out | apply below_alloc | apply pw_below_drewN | apply below_drew1) | exact HB.out))); (case aF => exact (fun _ _ => trivial)); (case aO => exact (by (with_reducible repeat (first | apply Kd.R_alloc | apply Kd.R_drewN | apply Kd.R_drew)); exact HO_5.out)); (case aS => exact (below_size (by repeat (first | (with_reducible first | exact HB.out | apply below_alloc | apply pw_below_drewN | apply below_drew1) | exact HB.out)))); (case aL => have := LMc8.out; omega); intro v107 w10 ho hb hg hat; rw [← Ny106.out] at ho; have n0_ := Aside0.mk (hb); have n1_ := Aside0.mk (ho); clear HB; clear HO_5; have HB := n0_; have HO108 := n1_; clear n0_ n1_; clear ho hb hg hat))
            go_roundg k1
            case measure => have := HK1.out; omega
            case rel => exact ⟨(y106), (wrap64 (x6_1 + 1)), (by first | rfl | (simp; done) | (simp [*]; done)), H', ⟨by have := HK1.out; omega⟩, ⟨by (with_reducible repeat (first | apply Kd.R_alloc | apply Kd.R_drewN | apply Kd.R_drew)); exact HO108.out⟩, ⟨by repeat (first | (with_reducible first | exact HB.out | apply below_alloc | apply pw_below_drewN | apply below_drew1) | exact HB.out)⟩⟩
          · rw [if_neg c8] at H
            exact absurd H (by simp)
        · rw [if_neg c6] at H
          exact absurd H (by simp)
      · rw [if_neg c4] at H
        have c4b0 : decide (x6_1 < t105) = false := decide_eq_false c4
        clear c4
        obtain rfl := Option.some.inj H
        go_wp2_with (first | ((with_reducible refine gate_callee (f := 16) rfl ?_); refine goesL_ (some 9) rfl rfl Tryd.func16 (by kernel_rfl) rfl #[.int .i64 a0] rfl (by (try simp only [List.map_toArray, List.map_cons, List.map_nil]); first | done | rfl | (simp only [List.length_drop, List.length_take]; rfl)) ?_; (with_reducible refine (spec_VLSize.calls a0 t105 _ A3.out).mono ?_); rintro e w11 ⟨rfl, hb⟩; refine ⟨_, rfl, ?_⟩; have n0_ := Aside0.mk (Kd.R_below (by (with_reducible repeat (first | apply Kd.R_alloc | apply Kd.R_drewN | apply Kd.R_drew)); exact HO_5.out) hb); have n1_ := Aside0.mk (below_step (by repeat (first | (with_reducible first | exact HB.out | apply below_alloc | apply pw_below_drewN | apply below_drew1) | exact HB.out)) hb); clear HO_5; clear HB; have HO_5 := n0_; have HB := n1_; clear n0_ n1_; (try clear hb); (try clear hb2); (try clear hk); (try clear hi)))
        go_ret
        exact ⟨_, by first | rfl | (simp [errW_none, errW_some] <;> rfl) | (simp [*, errW_none, errW_some] <;> rfl), by (with_reducible repeat (first | apply Kd.R_alloc | apply Kd.R_drewN | apply Kd.R_drew)); exact HO_5.out, by repeat (first | (with_reducible first | exact HB.out | apply below_alloc | apply pw_below_drewN | apply below_drew1) | exact HB.out)⟩

/-! ### spec_VLSigned: function 62 -/
def spec_VLSigned.f (a0 : Int) : Option (Bool) := if (Int.tmod a0 2) = 1 then (some (decide (a0 < 11))) else (some false)
set_option maxHeartbeats 8000000 in
set_option maxRecDepth 100000 in
theorem spec_VLSigned.calls (a0 : Int) (r : Bool) (w : World) (h : spec_VLSigned.f a0 = some r) :
    Calls Tryd.prog 62 #[.int .i64 a0] w fun e w' => e = .returned (.bool r) ∧ Drawn0 w w' := by
  have H : (if (Int.tmod a0 2) = 1 then (some (decide (a0 < 11))) else (some false)) = some r := h
  clear h
  by_cases c2 : (Int.tmod a0 2) = 1
  · rw [if_pos c2] at H
    have c2b0 : ((Int.tmod a0 2) == 1) = true := beq_iff_eq.mpr c2
    have c2b1 : ((Int.tmod a0 2) != 1) = false := bne_eq_false_iff_eq.mpr c2
    clear c2
    obtain rfl := Option.some.inj H
    go_enter Tryd.func62, Tryd.ntmps62
    go_wp2
    go_ret
    exact ⟨by first | rfl | (simp; done) | (simp [*]; done), by repeat (first | exact Drawn0.refl _ | apply Drawn0.step)⟩
  · rw [if_neg c2] at H
    have c2b0 : ((Int.tmod a0 2) == 1) = false := beq_eq_false_iff_ne.mpr c2
    have c2b1 : ((Int.tmod a0 2) != 1) = true := bne_iff_ne.mpr c2
    obtain rfl := Option.some.inj H
    go_enter Tryd.func62, Tryd.ntmps62
    go_wp2
    go_ret
    exact ⟨by first | rfl | (simp; done) | (simp [*]; done), by repeat (first | exact Drawn0.refl _ | apply Drawn0.step)⟩

/-! ### spec_VLNumber: function 18 -/
def spec_VLNumber.l0 : Nat → Int → List Int → Int → Int → Option (Int)
  | 0, _, _, _, _ => none
  | k + 1, x0, x1, x5, x6 => if x6 ≥ 0 then (if 0 ≤ x6 then (if x6 < (x1.length : Int) then (spec_VLNumber.l0 k x0 x1 (IntKind.u64.wrap ((IntKind.u64.wrap (x5 * 256)) + (IntKind.u64.wrap (rd x1 x6)))) (wrap64 (x6 - 1))) else (none)) else (none)) else ((spec_VLSigned.f x0).bind fun t110 => (if t110 = true then (if (wrap64 (8 * (x1.length : Int))) < 64 then (if 0 ≤ (IntKind.u64.wrap (wrap64 ((wrap64 (8 * (x1.length : Int))) - 1))) then (if (shr .u64 x5 (IntKind.u64.wrap (wrap64 ((wrap64 (8 * (x1.length : Int))) - 1)))) = 1 then (if 0 ≤ (IntKind.u64.wrap (wrap64 (8 * (x1.length : Int)))) then (some (IntKind.u64.wrap (x5 - (shl .u64 1 (IntKind.u64.wrap (wrap64 (8 * (x1.length : Int)))))))) else (none)) else (some x5)) else (none)) else (some x5)) else (some x5)))
def spec_VLNumber.f (k : Nat) (a0 : Int) (l1 : List Int) : Option (Int) := spec_VLNumber.l0 k a0 l1 0 (wrap64 ((l1.length : Int) - 1))
theorem spec_VLNumber.mono_l : ∀ k, (∀ y0 y1 y2 y3, LeO (spec_VLNumber.l0 k y0 y1 y2 y3) (spec_VLNumber.l0 (k + 1) y0 y1 y2 y3))
  | 0 => fun _ _ _ _ r h => by simp [spec_VLNumber.l0] at h
  | k + 1 => by
    have ih0 := spec_VLNumber.mono_l k
    · intro y0 y1 y2 y3
      unfold spec_VLNumber.l0
      repeat' first
      | (with_reducible exact ih0 _ _ _ _)
      | (with_reducible exact LeO.refl _)
      | (with_reducible exact LeO.none _)
      | (with_reducible refine LeO.ite ?_ ?_)
      | (with_reducible refine LeO.bind ?_ (fun _ => ?_))
      | exact ih0 _ _ _ _
      | exact LeO.none _
      | refine LeO.ite ?_ ?_
      | refine LeO.bind ?_ (fun _ => ?_)
theorem spec_VLNumber.mono : ∀ a0 a1 k, LeO (spec_VLNumber.f k a0 a1) (spec_VLNumber.f (k + 1) a0 a1) := by
  intro a0 a1 k
  have ih0 := spec_VLNumber.mono_l k
  unfold spec_VLNumber.f
  repeat' first
      | (with_reducible exact ih0 _ _ _ _)
      | (with_reducible exact LeO.refl _)
      | (with_reducible exact LeO.none _)
      | (with_reducible refine LeO.ite ?_ ?_)
      | (with_reducible refine LeO.bind ?_ (fun _ => ?_))
      | exact ih0 _ _ _ _
      | exact LeO.none _
      | refine LeO.ite ?_ ?_
      | refine LeO.bind ?_ (fun _ => ?_)
set_option maxHeartbeats 8000000 in
set_option maxRecDepth 100000 in
theorem spec_VLNumber.calls (k : Nat) (a0 : Int) (A1 : Option Addr) (c1 : Nat) (l1 : List Int) (r : Int) (w : World) (hr1 : Kd.C (Kd.int .u8) w A1 l1.length l1) (hc1 : l1.length ≤ c1) (h : spec_VLNumber.f k a0 l1 = some r) :
    Calls Tryd.prog 18 #[.int .i64 a0, .slice A1 l1.length c1] w fun e w' => e = .returned (.int .u64 r) ∧ Drawn0 w w' := by
  have HR1 := Aside0.mk hr1
  have HC1 := Aside0.mk hc1
  clear hr1 hc1
  have H : (spec_VLNumber.l0 k a0 l1 0 (wrap64 ((l1.length : Int) - 1))) = some r := h
  clear h
  have H' := Aside0.mk H
  clear H
  go_enter Tryd.func18, Tryd.ntmps18
  go_wp2
  go_loopg [5, 6] k (fun kq v5 v6 w' => ∃ (x5_1 : Int) (x6_1 : Int), v5 = .int .u64 x5_1 ∧ v6 = .int .i64 x6_1 ∧ Aside0 (spec_VLNumber.l0 kq a0 l1 x5_1 x6_1 = some r) ∧ Aside0 (kq ≤ k) ∧ Drawn0 w w')
  case atStart => exact ⟨(0), (wrap64 ((l1.length : Int) - 1)), (by first | rfl | (simp; done) | (simp [*]; done)), (by first | rfl | (simp; done) | (simp [*]; done)), H', ⟨Nat.le_refl _⟩, by repeat (first | exact Drawn0.refl _ | apply Drawn0.step)⟩
  case round =>
    clear H'
    try clear c1
    try clear p2
    obtain ⟨x5_1, x6_1, rfl, rfl, HA, HK1, ⟨m1, rfl⟩⟩ := hrel
    cases gk with
    | zero => exact absurd HA.out (by simp [spec_VLNumber.l0])
    | succ k1 =>
      have H := HA.out
      clear HA
      simp only [spec_VLNumber.l0] at H
      by_cases c3 : x6_1 ≥ 0
      · rw [if_pos c3] at H
        have c3b0 : decide (0 ≤ x6_1) = true := decide_eq_true c3
        clear c3
        by_cases c4 : 0 ≤ x6_1
        · rw [if_pos c4] at H
          have c4b0 : decide (0 ≤ x6_1) = true := decide_eq_true c4
          clear c4
          by_cases c5 : x6_1 < (l1.length : Int)
          · rw [if_pos c5] at H
            have c5b0 : decide (x6_1 < (l1.length : Int)) = true := decide_eq_true c5
            clear c5
            have H' := Aside0.mk H
            clear H
            have p109 : 0 ≤ (x6_1 : Int) := of_decide_eq_true (by first | (with_reducible assumption) | assumption)
            have q109 : x6_1 < (l1.length : Int) := of_decide_eq_true (by first | (with_reducible assumption) | assumption)
            obtain ⟨ad109, e109, hx109_0⟩ := Kd.at_int HR1.out x6_1 p109 q109
            cases e109
            replace p109 := eq_true p109
            replace q109 := eq_true q109
            go_wp2
            go_roundg k1
            case measure => have := HK1.out; omega
            case rel => exact ⟨(IntKind.u64.wrap ((IntKind.u64.wrap (x5_1 * 256)) + (IntKind.u64.wrap (rd l1 x6_1)))), (wrap64 (x6_1 - 1)), (by first | rfl | (simp; done) | (simp [*]; done)), (by first | rfl | (simp; done) | (simp [*]; done)), H', ⟨by have := HK1.out; omega⟩, by repeat (first | exact Drawn0.refl _ | apply Drawn0.step)⟩
          · rw [if_neg c5] at H
            exact absurd H (by simp)
        · rw [if_neg c4] at H
          exact absurd H (by simp)
      · rw [if_neg c3] at H
        have c3b0 : decide (0 ≤ x6_1) = false := decide_eq_false c3
        clear c3
        replace H := Option.bind_eq_some_iff.mp H
        obtain ⟨t110, A60, H⟩ := H
        replace H : (if t110 = true then (if (wrap64 (8 * (l1.length : Int))) < 64 then (if 0 ≤ (IntKind.u64.wrap (wrap64 ((wrap64 (8 * (l1.length : Int))) - 1))) then (if (shr .u64 x5_1 (IntKind.u64.wrap (wrap64 ((wrap64 (8 * (l1.length : Int))) - 1)))) = 1 then (if 0 ≤ (IntKind.u64.wrap (wrap64 (8 * (l1.length : Int)))) then (some (IntKind.u64.wrap (x5_1 - (shl .u64 1 (IntKind.u64.wrap (wrap64 (8 * (l1.length : Int)))))))) else (none)) else (some x5_1)) else (none)) else (some x5_1)) else (some x5_1)) = some r := H
        have A6 := Aside0.mk A60
        clear A60
        by_cases c7 : t110 = true
        · subst c7
          have H1 : (if (wrap64 (8 * (l1.length : Int))) < 64 then (if 0 ≤ (IntKind.u64.wrap (wrap64 ((wrap64 (8 * (l1.length : Int))) - 1))) then (if (shr .u64 x5_1 (IntKind.u64.wrap (wrap64 ((wrap64 (8 * (l1.length : Int))) - 1)))) = 1 then (if 0 ≤ (IntKind.u64.wrap (wrap64 (8 * (l1.length : Int)))) then (some (IntKind.u64.wrap (x5_1 - (shl .u64 1 (IntKind.u64.wrap (wrap64 (8 * (l1.length : Int)))))))) else (none)) else (some x5_1)) else (none)) else (some x5_1)) = some r := by rw [if_pos rfl] at H; exact H
          clear H
          have H := H1
          clear H1
          by_cases c8 : (wrap64 (8 * (l1.length : Int))) < 64
          · rw [if_pos c8] at H
            have c8b0 : decide ((wrap64 (8 * (l1.length : Int))) < 64) = true := decide_eq_true c8
            clear c8
            obtain ⟨ji9, hji9⟩ : ∃ j_ : Int, (IntKind.u64.wrap (wrap64 ((wrap64 (8 * (l1.length : Int))) - 1))) = j_ := ⟨_, rfl⟩
            replace H : (if 0 ≤ (ji9) then (if (shr .u64 x5_1 (ji9)) = 1 then (if 0 ≤ (IntKind.u64.wrap (wrap64 (8 * (l1.length : Int)))) then (some (IntKind.u64.wrap (x5_1 - (shl .u64 1 (IntKind.u64.wrap (wrap64 (8 * (l1.length : Int)))))))) else (none)) else (some x5_1)) else (none)) = some r := by first | (rw [hji9] at H; exact H) | (simp only [hji9] at H ⊢; exact H)
            (try rw [hji9] at A6)
            by_cases c10 : 0 ≤ (ji9)
            · rw [if_pos c10] at H
              have c10b0 := eq_true c10
              have c10b1 : decide (0 ≤ (ji9)) = true := decide_eq_true c10
              clear c10
              obtain ⟨ji11, hji11⟩ : ∃ j_ : Int, (shr .u64 x5_1 (ji9)) = j_ := ⟨_, rfl⟩
              replace H : (if (ji11) = 1 then (if 0 ≤ (IntKind.u64.wrap (wrap64 (8 * (l1.length : Int)))) then (some (IntKind.u64.wrap (x5_1 - (shl .u64 1 (IntKind.u64.wrap (wrap64 (8 * (l1.length : Int)))))))) else (none)) else (some x5_1)) = some r := by first | (rw [hji11] at H; exact H) | (simp only [hji11] at H ⊢; exact H)
              (try rw [hji11] at A6)
              have hji11_ : (x5_1 / 2 ^ min (ji9).toNat 64) = ji11 := hji11
              have hji11z : (ji9) ≤ 64 → (x5_1 / 2 ^ (ji9).toNat) = ji11 := shr_small hji11
              by_cases c12 : (ji11) = 1
              · rw [if_pos c12] at H
                have c12b0 : ((ji11) == 1) = true := beq_iff_eq.mpr c12
                have c12b1 : ((ji11) != 1) = false := bne_eq_false_iff_eq.mpr c12
                clear c12
                obtain ⟨ji13, hji13⟩ : ∃ j_ : Int, (IntKind.u64.wrap (wrap64 (8 * (l1.length : Int)))) = j_ := ⟨_, rfl⟩
                replace H : (if 0 ≤ (ji13) then (some (IntKind.u64.wrap (x5_1 - (shl .u64 1 (ji13))))) else (none)) = some r := by first | (rw [hji13] at H; exact H) | (simp only [hji13] at H ⊢; exact H)
                (try rw [hji13] at A6)
                by_cases c14 : 0 ≤ (ji13)
                · rw [if_pos c14] at H
                  have c14b0 := eq_true c14
                  have c14b1 : decide (0 ≤ (ji13)) = true := decide_eq_true c14
                  clear c14
                  obtain ⟨ji15, hji15⟩ : ∃ j_ : Int, (shl .u64 1 (ji13)) = j_ := ⟨_, rfl⟩
                  replace H : (some (IntKind.u64.wrap (x5_1 - (ji15)))) = some r := by first | (rw [hji15] at H; exact H) | (simp only [hji15] at H ⊢; exact H)
                  (try rw [hji15] at A6)
                  have hji15_ : (IntKind.u64.wrap (1 * 2 ^ min (ji13).toNat 64)) = ji15 := hji15
                  have hji15z : (ji13) ≤ 64 → (IntKind.u64.wrap (1 * 2 ^ (ji13).toNat)) = ji15 := shl_small hji15
                  have hji15u : (IntKind.u64.wrap (2 ^ min (ji13).toNat 64)) = ji15 := by have h_ := hji15_; rw [Int.one_mul] at h_; exact h_
                  have hji15v : (ji13) ≤ 64 → (IntKind.u64.wrap (2 ^ (ji13).toNat)) = ji15 := fun hle_ => by have h_ := hji15z hle_; rw [Int.one_mul] at h_; exact h_
                  obtain rfl := Option.some.inj H
                  go_wp2_with (first | ((with_reducible refine gate_callee (f := 62) rfl ?_); refine goesL_ (some 27) rfl rfl Tryd.func62 (by kernel_rfl) rfl #[.int .i64 a0] rfl (by (try simp only [List.map_toArray, List.map_cons, List.map_nil]); first | done | rfl | (simp only [List.length_drop, List.length_take]; rfl)) ?_; (with_reducible refine (spec_VLSigned.calls a0 true _ A6.out).mono ?_); rintro e w' ⟨rfl, ⟨nd, rfl⟩⟩; refine ⟨_, rfl, ?_⟩))
                  go_ret
                  exact ⟨by first | rfl | (simp; done) | (simp only [← hji9, ← hji11, ← hji13, ← hji15] <;> (first | rfl | simp)) | (simp [*]; done), by repeat (first | exact Drawn0.refl _ | apply Drawn0.step)⟩
                · rw [if_neg c14] at H
                  exact absurd H (by simp)
              · rw [if_neg c12] at H
                have c12b0 : ((ji11) == 1) = false := beq_eq_false_iff_ne.mpr c12
                have c12b1 : ((ji11) != 1) = true := bne_iff_ne.mpr c12
                obtain rfl := Option.some.inj H
                go_wp2_with (first | ((with_reducible refine gate_callee (f := 62) rfl ?_); refine goesL_ (some 27) rfl rfl Tryd.func62 (by kernel_rfl) rfl #[.int .i64 a0] rfl (by (try simp only [List.map_toArray, List.map_cons, List.map_nil]); first | done | rfl | (simp only [List.length_drop, List.length_take]; rfl)) ?_; (with_reducible refine (spec_VLSigned.calls a0 true _ A6.out).mono ?_); rintro e w' ⟨rfl, ⟨nd, rfl⟩⟩; refine ⟨_, rfl, ?_⟩))
                go_ret
                exact ⟨by first | rfl | (simp; done) | (simp only [← hji9, ← hji11] <;> (first | rfl | simp)) | (simp [*]; done), by repeat (first | exact Drawn0.refl _ | apply Drawn0.step)⟩
            · rw [if_neg c10] at H
              exact absurd H (by simp)
          · rw [if_neg c8] at H
            have c8b0 : decide ((wrap64 (8 * (l1.length : Int))) < 64) = false := decide_eq_false c8
            clear c8
            obtain rfl := Option.some.inj H
            go_wp2_with (first | ((with_reducible refine gate_callee (f := 62) rfl ?_); refine goesL_ (some 27) rfl rfl Tryd.func62 (by kernel_rfl) rfl #[.int .i64 a0] rfl (by (try simp only [List.map_toArray, List.map_cons, List.map_nil]); first | done | rfl | (simp only [List.length_drop, List.length_take]; rfl)) ?_; (with_reducible refine (spec_VLSigned.calls a0 true _ A6.out).mono ?_); rintro e w' ⟨rfl, ⟨nd, rfl⟩⟩; refine ⟨_, rfl, ?_⟩))
            go_ret
            exact ⟨by first | rfl | (simp; done) | (simp [*]; done), by repeat (first | exact Drawn0.refl _ | apply Drawn0.step)⟩
        · replace c7 := Bool.eq_false_iff.mpr c7
          subst c7
          have H1 : (some x5_1) = some r := by rw [if_neg (show ¬ (false = true) by decide)] at H; exact H
          clear H
          have H := H1
          clear H1
          obtain rfl := Option.some.inj H
          go_wp2_with (first | ((with_reducible refine gate_callee (f := 62) rfl ?_); refine goesL_ (some 27) rfl rfl Tryd.func62 (by kernel_rfl) rfl #[.int .i64 a0] rfl (by (try simp only [List.map_toArray, List.map_cons, List.map_nil]); first | done | rfl | (simp only [List.length_drop, List.length_take]; rfl)) ?_; (with_reducible refine (spec_VLSigned.calls a0 false _ A6.out).mono ?_); rintro e w' ⟨rfl, ⟨nd, rfl⟩⟩; refine ⟨_, rfl, ?_⟩))
          go_ret
          exact ⟨by first | rfl | (simp; done) | (simp [*]; done), by repeat (first | exact Drawn0.refl _ | apply Drawn0.step)⟩

/-! ### laws_vlCut: function 10 -/
def laws_vlCut.f (k : Nat) (a0 : Int) (a1 : Int) : Option (Int) := (spec_VLBytes.f k a0 a1).bind fun t111 => ((spec_VLNumber.f k a0 t111).bind fun t114 => (some t114))
theorem laws_vlCut.mono : ∀ a0 a1 k, LeO (laws_vlCut.f k a0 a1) (laws_vlCut.f (k + 1) a0 a1) := by
  intro a0 a1 k
  unfold laws_vlCut.f
  repeat' first
      | (with_reducible exact spec_VLBytes.mono _ _ _)
      | (with_reducible exact spec_VLNumber.mono _ _ _)
      | (with_reducible exact LeO.refl _)
      | (with_reducible exact LeO.none _)
      | (with_reducible refine LeO.ite ?_ ?_)
      | (with_reducible refine LeO.bind ?_ (fun _ => ?_))
      | exact spec_VLBytes.mono _ _ _
      | exact spec_VLNumber.mono _ _ _
      | exact LeO.none _
      | refine LeO.ite ?_ ?_
      | refine LeO.bind ?_ (fun _ => ?_)
set_option maxHeartbeats 8000000 in
set_option maxRecDepth 100000 in
theorem laws_vlCut.calls (k : Nat) (a0 : Int) (a1 : Int) (r : Int) (w : World) (h : laws_vlCut.f k a0 a1 = some r) :
    Calls Tryd.prog 10 #[.int .i64 a0, .int .u64 a1] w fun e w' => e = .returned (.int .u64 r) ∧ Below w.heap.size w w' := by
  have HB := Aside0.mk (Below.refl w.heap.size w)
  have H : ((spec_VLBytes.f k a0 a1).bind fun t111 => ((spec_VLNumber.f k a0 t111).bind fun t114 => (some t114))) = some r := h
  clear h
  replace H := Option.bind_eq_some_iff.mp H
  obtain ⟨t111, A30, H⟩ := H
  replace H : ((spec_VLNumber.f k a0 t111).bind fun t114 => (some t114)) = some r := H
  have A3 := Aside0.mk A30
  clear A30
  replace H := Option.bind_eq_some_iff.mp H
  obtain ⟨t114, A40, H⟩ := H
  replace H : (some t114) = some r := H
  have A4 := Aside0.mk A40
  clear A40
  obtain rfl := Option.some.inj H
  go_enter Tryd.func10, Tryd.ntmps10
  go_wp2_with (first | ((with_reducible refine gate_callee (f := 11) rfl ?_); refine goesL_ (some 8) rfl rfl Tryd.func11 (by kernel_rfl) rfl #[.int .i64 a0, .int .u64 a1] rfl (by (try simp only [List.map_toArray, List.map_cons, List.map_nil]); first | done | rfl | (simp only [List.length_drop, List.length_take]; rfl)) ?_; (with_reducible refine (spec_VLBytes.calls k a0 a1 t111 _ A3.out).mono ?_); rintro e w5 ⟨v112, rfl, ho0, hb⟩; refine ⟨_, rfl, ?_⟩; have n0_ := Aside0.mk (Kd.R_lower ho0 (below_size (by repeat (first | (with_reducible first | exact HB.out | apply below_alloc | apply pw_below_drewN | apply below_drew1) | exact HB.out)))); have n1_ := Aside0.mk (below_step (by repeat (first | (with_reducible first | exact HB.out | apply below_alloc | apply pw_below_drewN | apply below_drew1) | exact HB.out)) hb); clear HB; have HO113 := n0_; have HB := n1_; clear n0_ n1_; (try clear hb); (try clear hb2); (try clear hk); (try clear hi); (try clear ho0); obtain ⟨Ao6, co6, eo6⟩ := Kd.R_slice HO113.out; subst eo6) | ((with_reducible refine gate_callee (f := 18) rfl ?_); refine goesL_ (some 9) rfl rfl Tryd.func18 (by kernel_rfl) rfl #[.int .i64 a0, .slice Ao6 t111.length co6] rfl (by (try simp only [List.map_toArray, List.map_cons, List.map_nil]); first | done | rfl | (simp only [List.length_drop, List.length_take]; rfl)) ?_; (with_reducible refine (spec_VLNumber.calls k a0 _ _ t111 t114 _ ?side1 ?side2 A4.out).mono ?_); (case side1 => repeat (first | exact (Kd.R_reads' HO113.out).2.2 | (with_reducible refine Kd.C_alloc ?_ _) | (with_reducible refine Kd.C_drewN ?_ _) | (with_reducible refine Kd.C_drew ?_))); (case side2 => exact (Kd.R_reads' HO113.out).2.1); rintro e w' ⟨rfl, ⟨nd, rfl⟩⟩; refine ⟨_, rfl, ?_⟩))
  go_ret
  exact ⟨by first | rfl | (simp [errW_none, errW_some] <;> rfl) | (simp [*, errW_none, errW_some] <;> rfl), by repeat (first | (with_reducible first | exact HB.out | apply below_alloc | apply pw_below_drewN | apply below_drew1) | exact HB.out)⟩

/-! ### laws_vlKind: function 15 -/
def laws_vlKind.f (a0 : Int) : Option (Int) := (some (([1, 2, 3, 4, 7, 8, 9, 10, 11, 12, 13, 14] : List Int) : List Int)).bind fun y115 => (if 0 ≤ (Int.tmod a0 12) then (if (Int.tmod a0 12) < (y115.length : Int) then (some (rd y115 (Int.tmod a0 12))) else (none)) else (none))
set_option maxHeartbeats 8000000 in
set_option maxRecDepth 100000 in
theorem laws_vlKind.calls (a0 : Int) (r : Int) (w : World) (h : laws_vlKind.f a0 = some r) :
    Calls Tryd.prog 15 #[.int .u8 a0] w fun e w' => e = .returned (.int .i64 r) ∧ Below w.heap.size w w' := by
  have HB := Aside0.mk (Below.refl w.heap.size w)
  have H : ((some (([1, 2, 3, 4, 7, 8, 9, 10, 11, 12, 13, 14] : List Int) : List Int)).bind fun y115 => (if 0 ≤ (Int.tmod a0 12) then (if (Int.tmod a0 12) < (y115.length : Int) then (some (rd y115 (Int.tmod a0 12))) else (none)) else (none))) = some r := h
  clear h
  obtain ⟨y115, hy115⟩ : ∃ y_ : List Int, y_ = (([1, 2, 3, 4, 7, 8, 9, 10, 11, 12, 13, 14] : List Int)) := ⟨_, rfl⟩
  replace H : (if 0 ≤ (Int.tmod a0 12) then (if (Int.tmod a0 12) < (y115.length : Int) then (some (rd y115 (Int.tmod a0 12))) else (none)) else (none)) = some r := by first | (rw [hy115]; with_reducible exact H) | (have H2_ := (Option.bind_some _ _).symm.trans H; rw [hy115]; with_reducible exact H2_) | (have H2_ := (Option.bind_some _ _).symm.trans H; with_reducible exact H2_) | with_reducible exact H | (rw [hy115]; exact H) | exact H
  have Ny115 := Aside0.mk hy115
  clear hy115
  obtain ⟨ji2, hji2⟩ : ∃ j_ : Int, (Int.tmod a0 12) = j_ := ⟨_, rfl⟩
  replace H : (if 0 ≤ (ji2) then (if (ji2) < (y115.length : Int) then (some (rd y115 (ji2))) else (none)) else (none)) = some r := by first | (rw [hji2] at H; exact H) | (simp only [hji2] at H ⊢; exact H)
  by_cases c3 : 0 ≤ (ji2)
  · rw [if_pos c3] at H
    have c3b0 : decide (0 ≤ (ji2)) = true := decide_eq_true c3
    clear c3
    by_cases c4 : (ji2) < (y115.length : Int)
    · rw [if_pos c4] at H
      have c4b0 : decide ((ji2) < (y115.length : Int)) = true := decide_eq_true c4
      clear c4
      obtain rfl := Option.some.inj H
      go_enter Tryd.func15, Tryd.ntmps15
      go_wp2_with (first | ((with_reducible refine gate_dst (N := 3) rfl ?_); refine Kd.R_lit (Kd.int .i64) _ 3 ?hg (N := 3) ?hd (xs := ([1, 2, 3, 4, 7, 8, 9, 10, 11, 12, 13, 14] : List Int)) (inner := [.int .i64 1, .int .i64 2, .int .i64 3, .int .i64 4, .int .i64 7, .int .i64 8, .int .i64 9, .int .i64 10, .int .i64 11, .int .i64 12, .int .i64 13, .int .i64 14]) (ok := fun _ => True) (okp := fun _ => True) ?hr ?hp (fun _ hk => hk) trivial (Below.refl _ _) (Nat.le_refl _) (by simp) ?_; (case hd => rfl); (case hg => rfl); (case hr => first | (go_simp; done) | (go_simp; rfl)); (case hp => exact (Reps.one (show Kd.M (Kd.int .i64) _ _ _ 1 [.int .i64 1] from rfl) (Reps.one (show Kd.M (Kd.int .i64) _ _ _ 2 [.int .i64 2] from rfl) (Reps.one (show Kd.M (Kd.int .i64) _ _ _ 3 [.int .i64 3] from rfl) (Reps.one (show Kd.M (Kd.int .i64) _ _ _ 4 [.int .i64 4] from rfl) (Reps.one (show Kd.M (Kd.int .i64) _ _ _ 7 [.int .i64 7] from rfl) (Reps.one (show Kd.M (Kd.int .i64) _ _ _ 8 [.int .i64 8] from rfl) (Reps.one (show Kd.M (Kd.int .i64) _ _ _ 9 [.int .i64 9] from rfl) (Reps.one (show Kd.M (Kd.int .i64) _ _ _ 10 [.int .i64 10] from rfl) (Reps.one (show Kd.M (Kd.int .i64) _ _ _ 11 [.int .i64 11] from rfl) (Reps.one (show Kd.M (Kd.int .i64) _ _ _ 12 [.int .i64 12] from rfl) (Reps.one (show Kd.M (Kd.int .i64) _ _ _ 13 [.int .i64 13] from rfl) (Reps.one (show Kd.M (Kd.int .i64) _ _ _ 14 [.int .i64 14] from rfl) (Reps.none _ _)))))))))))))); intro v116 w5 ho6 hb hg_ hnew_; clear hg_ hnew_; (first | rw [← Ny115.out] at ho6 | (simp only [Int.reduceToNat] at ho6; rw [← Ny115.out] at ho6)); have n0_ := Aside0.mk (Kd.R_lower ho6 (below_size (by repeat (first | (with_reducible first | exact HB.out | apply below_alloc | apply pw_below_drewN | apply below_drew1) | exact HB.out)))); have n1_ := Aside0.mk (below_step (by repeat (first | (with_reducible first | exact HB.out | apply below_alloc | apply pw_below_drewN | apply below_drew1) | exact HB.out)) hb); clear HB; have HO117 := n0_; have HB := n1_; clear n0_ n1_; clear hb ho6; obtain ⟨Ao7, co7, eo7⟩ := Kd.R_slice HO117.out; subst eo7; have p118 : 0 ≤ ((ji2) : Int) := of_decide_eq_true (by first | (with_reducible assumption) | assumption); have q118 : (ji2) < (y115.length : Int) := of_decide_eq_true (by first | (with_reducible assumption) | assumption); obtain ⟨ad118, e118, hx118_0⟩ := Kd.at_int (Kd.R_reads' HO117.out).2.2 (ji2) p118 q118; cases e118; replace p118 := eq_true p118; replace q118 := eq_true q118))
      go_ret
      exact ⟨by first | rfl | (simp [errW_none, errW_some] <;> rfl) | (simp only [← hji2]; first | rfl | (simp [errW_none, errW_some] <;> rfl)) | (simp [*, errW_none, errW_some] <;> rfl), by repeat (first | (with_reducible first | exact HB.out | apply below_alloc | apply pw_below_drewN | apply below_drew1) | exact HB.out)⟩
    · rw [if_neg c4] at H
      exact absurd H (by simp)
  · rw [if_neg c3] at H
    exact absurd H (by simp)

end Go.Proofs.YthicaehcoingeaaDoor.PVL
