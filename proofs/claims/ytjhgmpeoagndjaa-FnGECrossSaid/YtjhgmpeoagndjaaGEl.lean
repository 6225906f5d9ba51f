/-
  The walk of the law: two pieces cross. Condition: words of 64 bits.
-/
import Derived.Test.YtjhgmpeoagndjaaGEp
import Derived.Test.YtjhgmpeoagndjaaGEi
import Derived.ChangeKeysEq
namespace Go.Proofs.Ytjhgmpeoagndjaa.GE
open Go.RowKit Go.Proofs.YtjhgmpeoagndjaaW.PrintWords Go.Proofs.YtjhgmpeoagndjaaW.PrintLast Go.Proofs.YtjhgmpeoagndjaaW.PrintMore
open Go.Proofs.Ytjhgmpeoagndjaa.Flo
set_option linter.unusedVariables false
set_option linter.unusedSimpArgs false
set_option maxRecDepth 100000
set_option maxHeartbeats 1000000

theorem und22 : Try.prog.underlying 22 = some (.float .f64) := by kernel_rfl
theorem und24 : Try.prog.underlying 24 = some (.array 2 22) := by kernel_rfl
theorem inf22s : (Try.prog.info? 22).isSome = true := by kernel_rfl
theorem inf22 : ∃ i, Try.prog.info? 22 = some i := Option.isSome_iff_exists.1 inf22s
theorem cells22 : Try.prog.cellsOf 22 = 1 := by kernel_rfl
theorem eqIn_f (d : Nat) (a b : Nat) (W : World) : (Op.equalIn (d + 1) 22 (.float .f64 a) (.float .f64 b)).run Try.prog W = .ok (FloatKind.f64.format.order a b == some .eq) W := by
  simp [Op.equalIn, run_underlying und22]
  rfl
theorem eq_pt (a0 a1 b0 b1 : Nat) (W : World) : (binOp .eql 24 (pt a0 a1) (pt b0 b1)).run Try.prog W = .ok (.bool ((FloatKind.f64.format.order a0 b0 == some .eq) && (FloatKind.f64.format.order a1 b1 == some .eq))) W := by
  obtain ⟨i, hi⟩ := inf22
  unfold pt
  rw [run_eql_struct, show (10000 : Nat) = 9999 + 1 from rfl, run_equalIn_array W 9999 _ _ und24 hi]
  rw [cells22, show List.range 2 = [0, 1] from rfl]
  have p0 : ∀ (x y : Nat) W, (part 22 #[.float .f64 x, .float .f64 y] 0).run Try.prog W = .ok (.float .f64 x) W := fun x y W => by kernel_rfl
  have p1 : ∀ (x y : Nat) W, (part 22 #[.float .f64 x, .float .f64 y] 1).run Try.prog W = .ok (.float .f64 y) W := fun x y W => by kernel_rfl
  simp only [Op.eqItems, Sem.run_bind, Nat.zero_mul, Nat.mul_one, p0, p1, Result.andThen_ok]
  rw [show (9999 : Nat) = 9998 + 1 from rfl, eqIn_f]
  simp only [Result.andThen_ok]
  cases (FloatKind.f64.format.order a0 b0 == some Ordering.eq)
  · simp
  · simp [eqIn_f 9998, p1]
    split <;> simp [*]

/-- The four boxes of the law's points. -/
def Boxes (W : World) (g a0 a1 b0 b1 c0 c1 d0 d1 : Nat) : Prop :=
  W.cell? ⟨g, 0, none⟩ = some (.float .f64 a0) ∧ W.cell? ⟨g, 1, none⟩ = some (.float .f64 a1) ∧
  W.cell? ⟨g + 1, 0, none⟩ = some (.float .f64 b0) ∧ W.cell? ⟨g + 1, 1, none⟩ = some (.float .f64 b1) ∧
  W.cell? ⟨g + 2, 0, none⟩ = some (.float .f64 c0) ∧ W.cell? ⟨g + 2, 1, none⟩ = some (.float .f64 c1) ∧
  W.cell? ⟨g + 3, 0, none⟩ = some (.float .f64 d0) ∧ W.cell? ⟨g + 3, 1, none⟩ = some (.float .f64 d1)
theorem Boxes.keep {W W' : World} {g a0 a1 b0 b1 c0 c1 d0 d1 : Nat} (h : Boxes W g a0 a1 b0 b1 c0 c1 d0 d1) (hb : Below W.heap.size W W') : Boxes W' g a0 a1 b0 b1 c0 c1 d0 d1 := by
  obtain ⟨h1, h2, h3, h4, h5, h6, h7, h8⟩ := h
  exact ⟨pw_cell_below hb h1, pw_cell_below hb h2, pw_cell_below hb h3, pw_cell_below hb h4, pw_cell_below hb h5, pw_cell_below hb h6, pw_cell_below hb h7, pw_cell_below hb h8⟩
theorem boxes_made (a0 a1 b0 b1 c0 c1 d0 d1 : Nat) (w : World) (o : Obj) : Boxes (((((w.alloc (po a0 a1)).alloc (po b0 b1)).alloc (po c0 c1)).alloc (po d0 d1)).alloc o) w.heap.size a0 a1 b0 b1 c0 c1 d0 d1 := by
  refine ⟨?_, ?_, ?_, ?_, ?_, ?_, ?_, ?_⟩ <;> simp [go_sem]

theorem sm_0 : Sm 0 0 := ⟨isF_zero, by decide, by decide⟩
theorem sm_2 : Sm 4611686018427387904 2 := ⟨isF_2, by decide, by decide⟩
theorem eqb {a0 b0 a1 b1 : Nat} {ax ay bx b_y : Int} (h1 : Sm a0 ax) (h2 : Sm a1 ay) (h3 : Sm b0 bx) (h4 : Sm b1 b_y) : ((FloatKind.f64.format.order a0 b0 == some .eq) && (FloatKind.f64.format.order a1 b1 == some .eq)) = (decide (ax = bx) && decide (ay = b_y)) := by
  rw [eq_b h1.1 h3.1, eq_b h2.1 h4.1]
theorem law_no (a0 a1 b0 b1 c0 c1 d0 d1 : Nat) (w : World) (H : ∀ c, Calls Try.prog 4 #[.slice (some ⟨w.heap.size + 4, 0, none⟩) 4 c, .int .i64 4] (((((w.alloc (po a0 a1)).alloc (po b0 b1)).alloc (po c0 c1)).alloc (po d0 d1)).alloc (.cells #[.float .f64 a0, .float .f64 a1, .float .f64 b0, .float .f64 b1, .float .f64 c0, .float .f64 c1, .float .f64 d0, .float .f64 d1] 24)) fun e w' => ∃ r : Bool, e = .returned (.bool r) ∧ (r = true → ∀ p ∈ [(a0, a1), (b0, b1), (c0, c1), (d0, d1)], Ok2 p) ∧ Below (((((w.alloc (po a0 a1)).alloc (po b0 b1)).alloc (po c0 c1)).alloc (po d0 d1)).alloc (.cells #[.float .f64 a0, .float .f64 a1, .float .f64 b0, .float .f64 b1, .float .f64 c0, .float .f64 c1, .float .f64 d0, .float .f64 d1] 24)).heap.size (((((w.alloc (po a0 a1)).alloc (po b0 b1)).alloc (po c0 c1)).alloc (po d0 d1)).alloc (.cells #[.float .f64 a0, .float .f64 a1, .float .f64 b0, .float .f64 b1, .float .f64 c0, .float .f64 c1, .float .f64 d0, .float .f64 d1] 24)) w') :
    Calls Try.prog 3 #[pt a0 a1, pt b0 b1, pt c0 c1, pt d0 d1] w fun e w' => e = .returned (.bool true) ∧ Below w.heap.size w w' := by
  have HH := Aside0.mk H
  have HM := Aside0.mk (boxes_made a0 a1 b0 b1 c0 c1 d0 d1 w (.cells #[.float .f64 a0, .float .f64 a1, .float .f64 b0, .float .f64 b1, .float .f64 c0, .float .f64 c1, .float .f64 d0, .float .f64 d1] 24))
  have HB0 := Aside0.mk (made_ok a0 a1 b0 b1 c0 c1 d0 d1 w).2
  clear H
  go_enter Try.func3, Try.ntmps3
  go_wp2_with fail
  refine (HH.out _).mono ?_
  rintro e w2 ⟨r, rfl, hr, hb⟩
  have HX := Aside0.mk (HM.out.keep hb)
  have HB := Aside0.mk (below_step HB0.out hb)
  clear HB0 HM HH hb
  cases r
  · go_wp2_with fail
    go_ret
    exact ⟨rfl, HB.out⟩
  · have hr := hr rfl
    obtain ⟨⟨ax, h1⟩, ay, h2⟩ := hr (a0, a1) (by simp)
    obtain ⟨⟨bx, h3⟩, b_y, h4⟩ := hr (b0, b1) (by simp)
    obtain ⟨⟨cx, h5⟩, cy, h6⟩ := hr (c0, c1) (by simp)
    obtain ⟨⟨dx, h7⟩, dy, h8⟩ := hr (d0, d1) (by simp)
    dsimp only at h1 h2 h3 h4 h5 h6 h7 h8
    have E1 := fun W => eq_pt a0 a1 b0 b1 W
    have E2 := fun W => eq_pt c0 c1 d0 d1 W
    rw [eqb h1 h2 h3 h4] at E1
    rw [eqb h5 h6 h7 h8] at E2
    have hQ1 : (decide (ax = bx) && decide (ay = b_y)) = false → ¬ (ax = bx ∧ ay = b_y) := by simp
    have hQ2 : (decide (cx = dx) && decide (cy = dy)) = false → ¬ (cx = dx ∧ cy = dy) := by simp
    have HS := Aside0.mk (fun W => geStraight_ok a0 a1 b0 b1 c0 c1 d0 d1 ax ay bx b_y cx cy dx dy h1 h2 h3 h4 h5 h6 h7 h8 W)
    have HP := Aside0.mk (fun W => specCross_ok a0 a1 b0 b1 c0 c1 d0 d1 ax ay bx b_y cx cy dx dy h1 h2 h3 h4 h5 h6 h7 h8 W)
    have HI := Aside0.mk (fun (p1 : ¬ (side ax ay bx b_y cx cy = 0 ∧ side ax ay bx b_y dx dy = 0)) p2 W => implCross_ok a0 a1 b0 b1 c0 c1 d0 d1 ax ay bx b_y cx cy dx dy h1 h2 h3 h4 h5 h6 h7 h8 p1 p2 W)
    have HJ := Aside0.mk (fun p1 p2 W => implCross_ok d0 d1 c0 c1 b0 b1 a0 a1 dx dy cx cy bx b_y ax ay h7 h8 h5 h6 h3 h4 h1 h2 p1 p2 W)
    have HK := Aside0.mk (fun W => implCross_ok 0 0 4611686018427387904 4611686018427387904 0 4611686018427387904 4611686018427387904 0 0 0 2 2 0 2 2 0 sm_0 sm_0 sm_2 sm_2 sm_0 sm_2 sm_2 sm_0 example_side.1 example_side.2 W)
    rw [example_ok] at HK
    clear hr h1 h2 h3 h4 h5 h6 h7 h8
    generalize (decide (ax = bx) && decide (ay = b_y)) = k1 at *
    generalize (decide (cx = dx) && decide (cy = dy)) = k2 at *
    have QX := Aside0.mk hQ1
    have QY := Aside0.mk hQ2
    clear hQ1 hQ2
    obtain ⟨f1, f2, f3, f4, f5, f6, f7, f8⟩ := HX.out
    cases k1
    case true =>
      go_wp2_with fail
      go_ret
      exact ⟨rfl, HB.out⟩
    cases k2
    case true =>
      go_wp2_with fail
      go_ret
      exact ⟨rfl, HB.out⟩
    go_wp2_with fail
    refine (HS.out _).mono ?_
    rintro e w3 ⟨rfl, hb3⟩
    have HX := Aside0.mk (HX.out.keep hb3)
    have HB := Aside0.mk (below_step HB.out hb3)
    clear f1 f2 f3 f4 f5 f6 f7 f8 hb3
    obtain ⟨f1, f2, f3, f4, f5, f6, f7, f8⟩ := HX.out
    have hQ3 : (decide (side ax ay bx b_y cx cy = 0) && decide (side ax ay bx b_y dx dy = 0)) = false → ¬ (side ax ay bx b_y cx cy = 0 ∧ side ax ay bx b_y dx dy = 0) := by simp
    have QZ := Aside0.mk hQ3
    clear hQ3 HS
    generalize (decide (side ax ay bx b_y cx cy = 0) && decide (side ax ay bx b_y dx dy = 0)) = k3 at *
    cases k3
    case true =>
      go_wp2_with fail
      refine (HK.out _).mono ?_
      rintro e w4 ⟨rfl, hb4⟩
      have HB := Aside0.mk (below_step HB.out hb4)
      clear hb4
      go_wp2_with fail
      go_ret
      exact ⟨rfl, HB.out⟩
    have nt := not_turned (QX.out (by first | rfl | trivial)) (QY.out (by first | rfl | trivial)) (QZ.out (by first | rfl | trivial))
    have HI := Aside0.mk (HI.out (QZ.out (by first | rfl | trivial)) nt.1)
    have HJ := Aside0.mk (HJ.out nt.2.1 nt.2.2)
    have e1 := seg_cross ax ay bx b_y cx cy dx dy (QX.out (by first | rfl | trivial)) (QY.out (by first | rfl | trivial)) (QZ.out (by first | rfl | trivial))
    have e2 := seg_cross dx dy cx cy bx b_y ax ay (fun h => QY.out (by first | rfl | trivial) ⟨h.1.symm, h.2.symm⟩) (fun h => QX.out (by first | rfl | trivial) ⟨h.1.symm, h.2.symm⟩) nt.2.1
    rw [cross_turned] at e2
    rw [e1] at HI
    rw [e2] at HJ
    clear e1 e2 nt QX QY QZ
    generalize crossI ax ay bx b_y cx cy dx dy = r at *
    go_wp2_with fail
    refine (HP.out _).mono ?_
    rintro e w4 ⟨rfl, hb4⟩
    have HX := Aside0.mk (HX.out.keep hb4)
    have HB := Aside0.mk (below_step HB.out hb4)
    clear f1 f2 f3 f4 f5 f6 f7 f8 hb4
    obtain ⟨f1, f2, f3, f4, f5, f6, f7, f8⟩ := HX.out
    go_wp2_with fail
    refine (HI.out _).mono ?_
    rintro e w5 ⟨rfl, hb5⟩
    have HX := Aside0.mk (HX.out.keep hb5)
    have HB := Aside0.mk (below_step HB.out hb5)
    clear f1 f2 f3 f4 f5 f6 f7 f8 hb5
    obtain ⟨f1, f2, f3, f4, f5, f6, f7, f8⟩ := HX.out
    have er : (r == r) = true := by simp
    go_wp2_with fail
    refine (HJ.out _).mono ?_
    rintro e w6 ⟨rfl, hb6⟩
    have HB := Aside0.mk (below_step HB.out hb6)
    clear f1 f2 f3 f4 f5 f6 f7 f8 hb6
    go_wp2_with fail
    refine (HK.out _).mono ?_
    rintro e w7 ⟨rfl, hb7⟩
    have HB := Aside0.mk (below_step HB.out hb7)
    clear hb7
    go_wp2_with fail
    go_ret
    exact ⟨rfl, HB.out⟩
/-- The law answers true. -/
theorem law_ok (a0 a1 b0 b1 c0 c1 d0 d1 : Nat) (h1 : a0 < 18446744073709551616) (h2 : a1 < 18446744073709551616) (h3 : b0 < 18446744073709551616) (h4 : b1 < 18446744073709551616) (h5 : c0 < 18446744073709551616) (h6 : c1 < 18446744073709551616) (h7 : d0 < 18446744073709551616) (h8 : d1 < 18446744073709551616) (w : World) :
    Calls Try.prog 3 #[pt a0 a1, pt b0 b1, pt c0 c1, pt d0 d1] w fun e w' => e = .returned (.bool true) ∧ Below w.heap.size w w' := by
  obtain ⟨hh, hb⟩ := made_ok a0 a1 b0 b1 c0 c1 d0 d1 w
  refine law_no a0 a1 b0 b1 c0 c1 d0 d1 w fun c => geSmall_ok _ c [(a0, a1), (b0, b1), (c0, c1), (d0, d1)] rfl ?_ _ (four_Q hh)
  intro p hp
  simp only [List.mem_cons, List.not_mem_nil, or_false] at hp
  rcases hp with rfl | rfl | rfl | rfl <;> exact ⟨by assumption, by assumption⟩
end Go.Proofs.Ytjhgmpeoagndjaa.GE
