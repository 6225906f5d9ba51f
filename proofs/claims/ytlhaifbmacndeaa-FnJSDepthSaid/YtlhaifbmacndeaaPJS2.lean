-- written by gprint.py, a program of this claim's own, by means of the kit's print
import Derived.Test.YtlhaifbmacndeaaPJS0
import Derived.Test.YtlhaifbmacndeaaPJS1
namespace Go.Proofs.Ytlhaifbmacndeaa.PJS
open Go.RowKit Go.Proofs.YtlhaifbmacndeaaW.PrintWords Go.Proofs.YtlhaifbmacndeaaW.PrintLast Go.Proofs.YtlhaifbmacndeaaW.PrintMore
attribute [local go_sem] max2_int min2_int max_two min_two max_three min_three max_four min_four   -- for this text's walks alone
set_option linter.unusedVariables false
set_option linter.unusedSimpArgs false

/-! ### laws_jsIn: function 7 -/
mutual
def laws_jsIn.j0 : Nat → Int → Int → ByteArray → List ByteArray → List (S26) → Int → Int → ByteArray → List ByteArray → Option (Int × Int × ByteArray × List ByteArray × (List (S33)))
  | 0, _, _, _, _, _, _, _, _, _ => none
  | k + 1, x102000, x102001, x102002, x102003, x102004, x110000, x110001, x110002, x110003 => if x102000 = 2 then ((spec_JSBits.f k x102001).bind fun t110 => (laws_jsIn.j1 k x102000 x102001 x102002 x102003 x102004 x110000 t110 x110002 x110003)) else (laws_jsIn.j1 k x102000 x102001 x102002 x102003 x102004 x110000 x110001 x110002 x110003)
def laws_jsIn.j1 : Nat → Int → Int → ByteArray → List ByteArray → List (S26) → Int → Int → ByteArray → List ByteArray → Option (Int × Int × ByteArray × List ByteArray × (List (S33)))
  | 0, _, _, _, _, _, _, _, _, _ => none
  | k + 1, x102000, x102001, x102002, x102003, x102004, x110000, x110001, x110002, x110003 => laws_jsIn.l0 k 0 x102000 x102001 x102002 x102003 x102004 x110000 x110001 x110002 x110003 ([] : List (S33))
def laws_jsIn.l0 : Nat → Int → Int → Int → ByteArray → List ByteArray → List (S26) → Int → Int → ByteArray → List ByteArray → List (S33) → Option (Int × Int × ByteArray × List ByteArray × (List (S33)))
  | 0, _, _, _, _, _, _, _, _, _, _, _ => none
  | k + 1, x4, x102000, x102001, x102002, x102003, x102004, x110000, x110001, x110002, x110003, x110004 => if x4 < (x102004.length : Int) then (if 0 ≤ x4 then ((laws_jsIn.f k ((rd_T26 x102004 x4).f0) ((rd_T26 x102004 x4).f1) ((rd_T26 x102004 x4).f2) ((rd_T26 x102004 x4).f3) ((rd_T26 x102004 x4).f4)).bind fun bt112 => (if x110004.length < 1759218604441 then (laws_jsIn.l0 k (wrap64 (x4 + 1)) x102000 x102001 x102002 x102003 x102004 x110000 x110001 x110002 x110003 (x110004 ++ [(⟨bt112.1, bt112.2.1, bt112.2.2.1, bt112.2.2.2.1, bt112.2.2.2.2⟩ : S33)])) else (none))) else (none)) else (some (x110000, x110001, x110002, x110003, x110004))
def laws_jsIn.f : Nat → Int → Int → ByteArray → List ByteArray → List (S26) → Option (Int × Int × ByteArray × List ByteArray × (List (S33)))
  | 0, _, _, _, _, _ => none
  | k + 1, a0_0, a0_1, a0_2, l0_3, l0_4 => (some (([] : List ByteArray) : List ByteArray)).bind fun y103 => (if y103.length + l0_3.length < 8796093022208 then ((some (y103 ++ l0_3 : List ByteArray)).bind fun y106 => (if a0_0 = 1 then (laws_jsIn.j0 k a0_0 a0_1 a0_2 l0_3 l0_4 a0_0 (IntKind.u64.wrap (a0_1)) a0_2 y106) else (laws_jsIn.j0 k a0_0 a0_1 a0_2 l0_3 l0_4 a0_0 0 a0_2 y106))) else (none))
end
theorem laws_jsIn.mono_l : ∀ k, (∀ y0 y1 y2 y3 y4, LeO (laws_jsIn.f k y0 y1 y2 y3 y4) (laws_jsIn.f (k + 1) y0 y1 y2 y3 y4)) ∧ (∀ y0 y1 y2 y3 y4 y5 y6 y7 y8, LeO (laws_jsIn.j0 k y0 y1 y2 y3 y4 y5 y6 y7 y8) (laws_jsIn.j0 (k + 1) y0 y1 y2 y3 y4 y5 y6 y7 y8)) ∧ (∀ y0 y1 y2 y3 y4 y5 y6 y7 y8, LeO (laws_jsIn.j1 k y0 y1 y2 y3 y4 y5 y6 y7 y8) (laws_jsIn.j1 (k + 1) y0 y1 y2 y3 y4 y5 y6 y7 y8)) ∧ (∀ y0 y1 y2 y3 y4 y5 y6 y7 y8 y9 y10, LeO (laws_jsIn.l0 k y0 y1 y2 y3 y4 y5 y6 y7 y8 y9 y10) (laws_jsIn.l0 (k + 1) y0 y1 y2 y3 y4 y5 y6 y7 y8 y9 y10))
  | 0 => ⟨fun _ _ _ _ _ r h => by simp [laws_jsIn.f] at h, fun _ _ _ _ _ _ _ _ _ r h => by simp [laws_jsIn.j0] at h, fun _ _ _ _ _ _ _ _ _ r h => by simp [laws_jsIn.j1] at h, fun _ _ _ _ _ _ _ _ _ _ _ r h => by simp [laws_jsIn.l0] at h⟩
  | k + 1 => by
    obtain ⟨ih0, ih1, ih2, ih3⟩ := laws_jsIn.mono_l k
    refine ⟨?_, ?_, ?_, ?_⟩
    · intro y0 y1 y2 y3 y4
      unfold laws_jsIn.f
      repeat' first
      | (with_reducible exact ih0 _ _ _ _ _)
      | (with_reducible exact ih1 _ _ _ _ _ _ _ _ _)
      | (with_reducible exact ih2 _ _ _ _ _ _ _ _ _)
      | (with_reducible exact ih3 _ _ _ _ _ _ _ _ _ _ _)
      | (with_reducible exact spec_JSBits.mono _ _)
      | (with_reducible exact LeO.refl _)
      | (with_reducible exact LeO.none _)
      | (with_reducible refine LeO.ite ?_ ?_)
      | (with_reducible refine LeO.bind ?_ (fun _ => ?_))
      | exact ih0 _ _ _ _ _
      | exact ih1 _ _ _ _ _ _ _ _ _
      | exact ih2 _ _ _ _ _ _ _ _ _
      | exact ih3 _ _ _ _ _ _ _ _ _ _ _
      | exact spec_JSBits.mono _ _
      | exact LeO.none _
      | refine LeO.ite ?_ ?_
      | refine LeO.bind ?_ (fun _ => ?_)
    · intro y0 y1 y2 y3 y4 y5 y6 y7 y8
      unfold laws_jsIn.j0
      repeat' first
      | (with_reducible exact ih0 _ _ _ _ _)
      | (with_reducible exact ih1 _ _ _ _ _ _ _ _ _)
      | (with_reducible exact ih2 _ _ _ _ _ _ _ _ _)
      | (with_reducible exact ih3 _ _ _ _ _ _ _ _ _ _ _)
      | (with_reducible exact spec_JSBits.mono _ _)
      | (with_reducible exact LeO.refl _)
      | (with_reducible exact LeO.none _)
      | (with_reducible refine LeO.ite ?_ ?_)
      | (with_reducible refine LeO.bind ?_ (fun _ => ?_))
      | exact ih0 _ _ _ _ _
      | exact ih1 _ _ _ _ _ _ _ _ _
      | exact ih2 _ _ _ _ _ _ _ _ _
      | exact ih3 _ _ _ _ _ _ _ _ _ _ _
      | exact spec_JSBits.mono _ _
      | exact LeO.none _
      | refine LeO.ite ?_ ?_
      | refine LeO.bind ?_ (fun _ => ?_)
    · intro y0 y1 y2 y3 y4 y5 y6 y7 y8
      unfold laws_jsIn.j1
      repeat' first
      | (with_reducible exact ih0 _ _ _ _ _)
      | (with_reducible exact ih1 _ _ _ _ _ _ _ _ _)
      | (with_reducible exact ih2 _ _ _ _ _ _ _ _ _)
      | (with_reducible exact ih3 _ _ _ _ _ _ _ _ _ _ _)
      | (with_reducible exact spec_JSBits.mono _ _)
      | (with_reducible exact LeO.refl _)
      | (with_reducible exact LeO.none _)
      | (with_reducible refine LeO.ite ?_ ?_)
      | (with_reducible refine LeO.bind ?_ (fun _ => ?_))
      | exact ih0 _ _ _ _ _
      | exact ih1 _ _ _ _ _ _ _ _ _
      | exact ih2 _ _ _ _ _ _ _ _ _
      | exact ih3 _ _ _ _ _ _ _ _ _ _ _
      | exact spec_JSBits.mono _ _
      | exact LeO.none _
      | refine LeO.ite ?_ ?_
      | refine LeO.bind ?_ (fun _ => ?_)
    · intro y0 y1 y2 y3 y4 y5 y6 y7 y8 y9 y10
      unfold laws_jsIn.l0
      repeat' first
      | (with_reducible exact ih0 _ _ _ _ _)
      | (with_reducible exact ih1 _ _ _ _ _ _ _ _ _)
      | (with_reducible exact ih2 _ _ _ _ _ _ _ _ _)
      | (with_reducible exact ih3 _ _ _ _ _ _ _ _ _ _ _)
      | (with_reducible exact spec_JSBits.mono _ _)
      | (with_reducible exact LeO.refl _)
      | (with_reducible exact LeO.none _)
      | (with_reducible refine LeO.ite ?_ ?_)
      | (with_reducible refine LeO.bind ?_ (fun _ => ?_))
      | exact ih0 _ _ _ _ _
      | exact ih1 _ _ _ _ _ _ _ _ _
      | exact ih2 _ _ _ _ _ _ _ _ _
      | exact ih3 _ _ _ _ _ _ _ _ _ _ _
      | exact spec_JSBits.mono _ _
      | exact LeO.none _
      | refine LeO.ite ?_ ?_
      | refine LeO.bind ?_ (fun _ => ?_)
theorem laws_jsIn.mono : ∀ a0 a1 a2 a3 a4 k, LeO (laws_jsIn.f k a0 a1 a2 a3 a4) (laws_jsIn.f (k + 1) a0 a1 a2 a3 a4) := by
  intro a0 a1 a2 a3 a4 k
  obtain ⟨ih0, ih1, ih2, ih3⟩ := laws_jsIn.mono_l k
  exact ih0 a0 a1 a2 a3 a4
def laws_jsIn.T1 : Bool × List (List Nat × List Nat) := (true, [([], []), ([0], [0]), ([], []), ([2], [2]), ([], []), ([], []), ([5], [5]), ([4, 6], [4, 6]), ([1, 3, 7], [1, 3, 7]), ([], []), ([9, 8, 7, 0, 1, 2, 3, 4, 5, 6, 7, 8, 9], [8, 9])])
def laws_jsIn.B1 : List Nat := [0, 1, 0, 4, 0, 0, 32, 112, 255, 0, 1023]
theorem laws_jsIn.tab1 : rtab .any (opsOf Try.f7 1) = laws_jsIn.T1 := by kernel_rfl
theorem laws_jsIn.bits1 : waitsOk laws_jsIn.T1.2 laws_jsIn.B1 = true := by kernel_rfl
def laws_jsIn.T9 : Bool × List (List Nat × List Nat) := (true, [([], []), ([0], [0]), ([], []), ([2], [2]), ([], []), ([3, 4], [3, 4]), ([5], [5]), ([6], [6]), ([7], [7]), ([1, 8, 7], [1, 8]), ([0, 1, 2, 3, 4, 5, 6, 7, 8, 9], []), ([10, 9, 9, 0, 1, 2, 3, 4, 5, 6, 7, 8, 9], [9, 10])])
def laws_jsIn.B9 : List Nat := [0, 1, 0, 4, 0, 28, 60, 124, 252, 511, 1023, 2047]
theorem laws_jsIn.tab9 : rtab .any (opsOf Try.f7 9) = laws_jsIn.T9 := by kernel_rfl
theorem laws_jsIn.bits9 : waitsOk laws_jsIn.T9.2 laws_jsIn.B9 = true := by kernel_rfl
set_option maxHeartbeats 8000000 in
set_option maxRecDepth 100000 in
theorem laws_jsIn.calls (k : Nat) : ∀ (a0_0 : Int) (a0_1 : Int) (a0_2 : ByteArray) (A0_3 : Option Addr) (c0_3 : Nat) (l0_3 : List ByteArray) (A0_4 : Option Addr) (c0_4 : Nat) (l0_4 : List (S26)) (r1 : Int) (r2 : Int) (r3 : ByteArray) (r4 : List ByteArray) (r5 : List (S33)) (w : World) (hr0_3 : Kd.C Kd.string w A0_3 l0_3.length l0_3) (hc0_3 : l0_3.length ≤ c0_3) (hr0_4 : Kd.C k26 w A0_4 l0_4.length l0_4) (hc0_4 : l0_4.length ≤ c0_4) (h : laws_jsIn.f k a0_0 a0_1 a0_2 l0_3 l0_4 = some (r1, r2, r3, r4, r5)),
    Calls Try.prog 7 #[.agg #[.int .i64 a0_0, .int .i64 a0_1, .string a0_2, .slice A0_3 l0_3.length c0_3, .slice A0_4 l0_4.length c0_4]] w fun e w' => ∃ v3_ v4_ : Value, e = .returned (.agg #[.int .i64 r1, .int .u64 r2, .string r3, v3_, v4_]) ∧ Kd.R Kd.string 9 w' w.heap.size (fun _ => True) v3_ r4 ∧ Kd.R k33 33 w' w.heap.size (fun k_ => some k_ ≠ (v3_ : Value).ownBlock) v4_ r5 ∧ Below w.heap.size w w' := by
  induction k using Nat.strongRecOn with
  | _ k ih =>
  intro a0_0 a0_1 a0_2 A0_3 c0_3 l0_3 A0_4 c0_4 l0_4 r1 r2 r3 r4 r5 w hr0_3 hc0_3 hr0_4 hc0_4 h
  cases k with
  | zero => exact absurd h (by simp [laws_jsIn.f])
  | succ k =>
  simp only [laws_jsIn.f] at h
  have hu26 := Try.underlying26
  have hu33 := Try.underlying33
  have HR0_3 := Aside0.mk hr0_3
  have HC0_3 := Aside0.mk hc0_3
  clear hr0_3 hc0_3
  have HR0_4 := Aside0.mk hr0_4
  have HC0_4 := Aside0.mk hc0_4
  clear hr0_4 hc0_4
  have HB := Aside0.mk (Below.refl w.heap.size w)
  have H : ((some (([] : List ByteArray) : List ByteArray)).bind fun y103 => (if y103.length + l0_3.length < 8796093022208 then ((some (y103 ++ l0_3 : List ByteArray)).bind fun y106 => (if a0_0 = 1 then (laws_jsIn.j0 k a0_0 a0_1 a0_2 l0_3 l0_4 a0_0 (IntKind.u64.wrap (a0_1)) a0_2 y106) else (laws_jsIn.j0 k a0_0 a0_1 a0_2 l0_3 l0_4 a0_0 0 a0_2 y106))) else (none))) = some (r1, r2, r3, r4, r5) := h
  clear h
  obtain ⟨y103, hy103⟩ : ∃ y_ : List ByteArray, y_ = (([] : List ByteArray)) := ⟨_, rfl⟩
  replace H : (if y103.length + l0_3.length < 8796093022208 then ((some (y103 ++ l0_3 : List ByteArray)).bind fun y106 => (if a0_0 = 1 then (laws_jsIn.j0 k a0_0 a0_1 a0_2 l0_3 l0_4 a0_0 (IntKind.u64.wrap (a0_1)) a0_2 y106) else (laws_jsIn.j0 k a0_0 a0_1 a0_2 l0_3 l0_4 a0_0 0 a0_2 y106))) else (none)) = some (r1, r2, r3, r4, r5) := by first | (rw [hy103]; with_reducible exact H) | (have H2_ := (Option.bind_some _ _).symm.trans H; rw [hy103]; with_reducible exact H2_) | (have H2_ := (Option.bind_some _ _).symm.trans H; with_reducible exact H2_) | with_reducible exact H | (rw [hy103]; exact H) | exact H
  have Ny103 := Aside0.mk hy103
  clear hy103
  by_cases c2 : y103.length + l0_3.length < 8796093022208
  · rw [if_pos c2] at H
    have LMc2 := Aside0.mk c2
    clear c2
    obtain ⟨y106, hy106⟩ : ∃ y_ : List ByteArray, y_ = (y103 ++ l0_3) := ⟨_, rfl⟩
    replace H : (if a0_0 = 1 then (laws_jsIn.j0 k a0_0 a0_1 a0_2 l0_3 l0_4 a0_0 (IntKind.u64.wrap (a0_1)) a0_2 y106) else (laws_jsIn.j0 k a0_0 a0_1 a0_2 l0_3 l0_4 a0_0 0 a0_2 y106)) = some (r1, r2, r3, r4, r5) := by first | (rw [hy106]; with_reducible exact H) | (have H2_ := (Option.bind_some _ _).symm.trans H; rw [hy106]; with_reducible exact H2_) | (have H2_ := (Option.bind_some _ _).symm.trans H; with_reducible exact H2_) | with_reducible exact H | (rw [hy106]; exact H) | exact H
    have Ny106 := Aside0.mk hy106
    clear hy106
    have HC3 := Aside0.mk H
    clear H
    go_enter Try.func7, Try.ntmps7
    try go_wp2_with (first | ((with_reducible refine gate_dst (N := 1) rfl ?_); refine box_event ?hg (N := 1) ?hd (cs := #[.int .i64 a0_0, .int .i64 a0_1, .string a0_2, .slice A0_3 l0_3.length c0_3, .slice A0_4 l0_4.length c0_4]) (t := 26) ?hr ?_; (case hd => rfl); (case hg => rfl); (case hr => first | (go_simp; done) | (go_simp; rfl)); intro gb101 hg w4 hbox hb; have n0_ := Aside0.mk (below_step (by repeat (first | (with_reducible first | exact HB.out | apply below_alloc | apply pw_below_drewN | apply below_drew1) | exact HB.out)) hb); have n1_ := Aside0.mk (hbox); have n2_ := Aside0.mk ((by rw [hg]; exact (below_size (by repeat (first | (with_reducible first | exact HB.out | apply below_alloc | apply pw_below_drewN | apply below_drew1) | exact HB.out))) : w.heap.size ≤ gb101)); have n3_ := Aside0.mk ((by rw [hg]; exact (below_size (by repeat (first | (with_reducible first | exact HB.out | apply below_alloc | apply pw_below_drewN | apply below_drew1) | exact HB.out))) : w.heap.size ≤ gb101)); clear HB; have HB := n0_; have BK101 := n1_; have GW101 := n2_; have GE101 := n3_; clear n0_ n1_ n2_ n3_; clear hb hbox hg) | ((with_reducible refine gate_dst (N := 2) rfl ?_); refine box_event ?hg (N := 2) ?hd (cs := #[.int .i64 0, .int .u64 0, .string (⟨#[]⟩ : ByteArray), .slice none 0 0, .slice none 0 0]) (t := 33) ?hr ?_; (case hd => rfl); (case hg => rfl); (case hr => first | (go_simp; done) | (go_simp; rfl)); intro gb102 hg w5 hbox hb; have n0_ := Aside0.mk (blk_below (g := gb101) (o := .cells #[.int .i64 a0_0, .int .i64 a0_1, .string a0_2, .slice A0_3 l0_3.length c0_3, .slice A0_4 l0_4.length c0_4] 26 (0, 0)) (by (with_reducible repeat (first | refine blk_drewN ?_ _ | refine blk_drew ?_ | refine blk_alloc ?_ _)); exact BK101.out) hb); have n1_ := Aside0.mk (below_step (by repeat (first | (with_reducible first | exact HB.out | apply below_alloc | apply pw_below_drewN | apply below_drew1 | refine below_set ?_ GE101.out) | exact HB.out)) hb); have n2_ := Aside0.mk (hbox); have n3_ := Aside0.mk ((by rw [hg]; exact (below_size (by repeat (first | (with_reducible first | exact HB.out | apply below_alloc | apply pw_below_drewN | apply below_drew1 | refine below_set ?_ GE101.out) | exact HB.out))) : w.heap.size ≤ gb102)); have n4_ := Aside0.mk ((by rw [hg]; exact (below_size (by repeat (first | (with_reducible first | exact HB.out | apply below_alloc | apply pw_below_drewN | apply below_drew1 | refine below_set ?_ GE101.out) | exact HB.out))) : w.heap.size ≤ gb102)); have n5_ := Aside0.mk ((by rw [hg]; exact Nat.ne_of_lt (blk_lt (g := gb101) (o := .cells #[.int .i64 a0_0, .int .i64 a0_1, .string a0_2, .slice A0_3 l0_3.length c0_3, .slice A0_4 l0_4.length c0_4] 26 (0, 0)) (by (with_reducible repeat (first | refine blk_drewN ?_ _ | refine blk_drew ?_ | refine blk_alloc ?_ _)); exact BK101.out)) : gb101 ≠ gb102)); have n6_ := Aside0.mk ((by rw [hg]; exact Nat.ne_of_gt (blk_lt (g := gb101) (o := .cells #[.int .i64 a0_0, .int .i64 a0_1, .string a0_2, .slice A0_3 l0_3.length c0_3, .slice A0_4 l0_4.length c0_4] 26 (0, 0)) (by (with_reducible repeat (first | refine blk_drewN ?_ _ | refine blk_drew ?_ | refine blk_alloc ?_ _)); exact BK101.out)) : gb102 ≠ gb101)); clear BK101; clear HB; have BK101 := n0_; have HB := n1_; have BK102 := n2_; have GW102 := n3_; have GE102 := n4_; have NB101_102 := n5_; have NB102_101 := n6_; clear n0_ n1_ n2_ n3_ n4_ n5_ n6_; clear hb hbox hg))
    have n0_ := Aside0.mk (blk_drew BK101.out)
    have n1_ := Aside0.mk (blk_drew BK102.out)
    have n2_ := Aside0.mk (below_drew1 HB.out)
    clear BK101
    clear BK102
    clear HB
    have BK101 := n0_
    have BK102 := n1_
    have HB := n2_
    clear n0_ n1_ n2_
    refine start_ (n := 11) (S := fun w' => w'.cell? ⟨gb101, 0, none⟩ = some (.int .i64 a0_0) ∧ w'.cell? ⟨gb101, 1, none⟩ = some (.int .i64 a0_1) ∧ w'.cell? ⟨gb101, 2, none⟩ = some (.string a0_2) ∧ w'.cell? ⟨gb101, 3, none⟩ = some (.slice A0_3 l0_3.length c0_3) ∧ w'.cell? ⟨gb101, 4, none⟩ = some (.slice A0_4 l0_4.length c0_4)) (ds := []) #[false, false, false, false, false, false, false, false, false, false, false] (by kernel_rfl) rfl rfl ⟨(blk_cell BK101.out 0).trans rfl, (blk_cell BK101.out 1).trans rfl, (blk_cell BK101.out 2).trans rfl, (blk_cell BK101.out 3).trans rfl, (blk_cell BK101.out 4).trans rfl⟩ (fun hHeld => ?_); refine with_tabW laws_jsIn.tab1 laws_jsIn.bits1 (fun HT_ HW_ => ?_)
    generalize w5.drew = w6 at BK101 BK102 HB hHeld ⊢
    refine pure_ (i := 0) (N := some 5) (v := ?_) (a' := ?_) #[true, false, false, false, false, false, false, false, false, false, false] rfl rfl (any_of HT_.out (by kernel_rfl)) (fun _ _ _ h => h) (Or.inl ⟨by rfl, ?_⟩) ?_ ?_
    rotate_left
    · intro w'
      go_simp
      with_reducible rfl
    rotate_left
    · simp only [Act.put, List.setIfInBounds_toArray, List.set_cons_zero, List.set_cons_succ, i64_w, i32_w]
      rfl
    refine pure_ (i := 2) (N := some 7) (v := ?_) (a' := ?_) #[true, false, true, false, false, false, false, false, false, false, false] rfl rfl (any_of HT_.out (by kernel_rfl)) (fun _ _ _ h => h) (Or.inl ⟨by rfl, ?_⟩) ?_ ?_
    rotate_left
    · intro w'
      go_simp
      with_reducible rfl
    rotate_left
    · simp only [Act.put, List.setIfInBounds_toArray, List.set_cons_zero, List.set_cons_succ, i64_w, i32_w]
      rfl
    refine pure_ (i := 5) (N := some 10) (v := ?_) (a' := ?_) #[true, false, true, false, false, true, false, false, false, false, false] rfl rfl (any_of HT_.out (by kernel_rfl)) (fun _ _ _ h => h) (Or.inl ⟨by rfl, ?_⟩) ?_ ?_
    rotate_left
    · intro w'
      go_simp
      with_reducible rfl
    rotate_left
    · simp only [Act.put, List.setIfInBounds_toArray, List.set_cons_zero, List.set_cons_succ, i64_w, i32_w]
      rfl
    refine take_ (i := 1) (N := some 6) (v := ?_) (a' := ?_) #[true, true, true, false, false, true, false, false, false, false, false] rfl rfl (take_ofW HT_.out HW_.out (by kernel_rfl)) (fun _ _ _ h => h) (Or.inl ⟨by rfl, ?_⟩) hHeld ?_ ?_
    rotate_left
    · rintro w' ⟨s0, s1, s2, s3, s4⟩
      go_simp
      with_reducible rfl
    rotate_left
    · simp only [Act.put, List.setIfInBounds_toArray, List.set_cons_zero, List.set_cons_succ, i64_w, i32_w]
      rfl
    refine take_ (i := 3) (N := some 8) (v := ?_) (a' := ?_) #[true, true, true, true, false, true, false, false, false, false, false] rfl rfl (take_ofW HT_.out HW_.out (by kernel_rfl)) (fun _ _ _ h => h) (Or.inl ⟨by rfl, ?_⟩) hHeld ?_ ?_
    rotate_left
    · rintro w' ⟨s0, s1, s2, s3, s4⟩
      go_simp
      with_reducible rfl
    rotate_left
    · simp only [Act.put, List.setIfInBounds_toArray, List.set_cons_zero, List.set_cons_succ, i64_w, i32_w]
      rfl
    refine take_ (i := 6) (N := some 11) (v := ?_) (a' := ?_) #[true, true, true, true, false, true, true, false, false, false, false] rfl rfl (take_ofW HT_.out HW_.out (by kernel_rfl)) (fun _ _ _ h => h) (Or.inl ⟨by rfl, ?_⟩) hHeld ?_ ?_
    rotate_left
    · rintro w' ⟨s0, s1, s2, s3, s4⟩
      go_simp
      with_reducible rfl
    rotate_left
    · simp only [Act.put, List.setIfInBounds_toArray, List.set_cons_zero, List.set_cons_succ, i64_w, i32_w]
      rfl
    refine join_ (σ := Value × Value × Nat) 1 #[true, true, true, true, true, true, true, true, true, true, false] (fun s_ => [(9, s_.1), (12, s_.2.1), (3, .pointer (some ⟨s_.2.2, 0, none⟩)), (13, .agg #[.int .i64 a0_0, .int .u64 0, .string a0_2, s_.2.1, .slice none 0 0])]) (fun s_ w' => (w'.cell? ⟨gb101, 0, none⟩ = some (.int .i64 a0_0) ∧ w'.cell? ⟨gb101, 1, none⟩ = some (.int .i64 a0_1) ∧ w'.cell? ⟨gb101, 2, none⟩ = some (.string a0_2) ∧ w'.cell? ⟨gb101, 3, none⟩ = some (.slice A0_3 l0_3.length c0_3) ∧ w'.cell? ⟨gb101, 4, none⟩ = some (.slice A0_4 l0_4.length c0_4)) ∧ (Kd.R Kd.string 9 w' w.heap.size (fun _ => True) s_.2.1 y106) ∧ (w'.heap[gb101]? = some (.cells #[.int .i64 a0_0, .int .i64 a0_1, .string a0_2, .slice A0_3 l0_3.length c0_3, .slice A0_4 l0_4.length c0_4] 26 (0, 0))) ∧ (w'.heap[gb102]? = some (.cells #[.int .i64 0, .int .u64 0, .string (⟨#[]⟩ : ByteArray), .slice none 0 0, .slice none 0 0] 33 (0, 0))) ∧ (w'.heap[s_.2.2]? = some (.cells #[.int .i64 0, .int .u64 0, .string (⟨#[]⟩ : ByteArray), .slice none 0 0, .slice none 0 0] 33 (0, 0))) ∧ (w.heap.size ≤ s_.2.2) ∧ (w.heap.size ≤ s_.2.2) ∧ (gb101 ≠ s_.2.2) ∧ (s_.2.2 ≠ gb101) ∧ (gb102 ≠ s_.2.2) ∧ (s_.2.2 ≠ gb102) ∧ (Below w.heap.size w w')) ?_ ?_
    rotate_left
    · intro hCont
      refine two_ (i := 4) (j := 9) (Ni := some 9) (Nj := some 3) #[true, true, true, true, true, true, true, false, false, false, false] #[true, true, true, true, false, true, true, false, false, true, false] rfl rfl rfl rfl (two_of HT_.out (by kernel_rfl)) (by decide) (by decide) (fun K hK => ?_) (fun K hK => ?_)
      · skip
        refine Kd.R_lit_step Kd.string _ 9 ?hg (N := 9) ?hd (xs := ([] : List ByteArray)) (inner := []) (ok := fun _ => True) (okp := fun _ => True) ?hr ?hp (fun _ hk => hk) trivial (Below.refl _ _) (Nat.le_refl _) (by simp) ?_; (case hd => rfl); (case hg => rfl); (case hr => first | (go_simp; done) | (go_simp; rfl)); (case hp => exact (Reps.none _ _))
        intro v104 w7 ho8 hb hg_ hnew_
        clear hg_ hnew_
        (first | rw [← Ny103.out] at ho8 | (simp only [Int.reduceToNat] at ho8; rw [← Ny103.out] at ho8))
        have n0_ := Aside0.mk (Kd.R_lower ho8 (below_size (by repeat (first | (with_reducible first | exact HB.out | apply below_alloc | apply pw_below_drewN | apply below_drew1 | refine below_set ?_ GE101.out | refine below_set ?_ GE102.out) | exact HB.out))))
        have n1_ := Aside0.mk (blk_below (g := gb101) (o := .cells #[.int .i64 a0_0, .int .i64 a0_1, .string a0_2, .slice A0_3 l0_3.length c0_3, .slice A0_4 l0_4.length c0_4] 26 (0, 0)) (by (with_reducible repeat (first | refine blk_drewN ?_ _ | refine blk_drew ?_ | refine blk_alloc ?_ _)); exact BK101.out) hb)
        have n2_ := Aside0.mk (blk_below (g := gb102) (o := .cells #[.int .i64 0, .int .u64 0, .string (⟨#[]⟩ : ByteArray), .slice none 0 0, .slice none 0 0] 33 (0, 0)) (by (with_reducible repeat (first | refine blk_drewN ?_ _ | refine blk_drew ?_ | refine blk_alloc ?_ _)); exact BK102.out) hb)
        have n3_ := Aside0.mk (below_step (by repeat (first | (with_reducible first | exact HB.out | apply below_alloc | apply pw_below_drewN | apply below_drew1 | refine below_set ?_ GE101.out | refine below_set ?_ GE102.out) | exact HB.out)) hb)
        clear BK101
        clear BK102
        clear HB
        have HO105 := n0_
        have BK101 := n1_
        have BK102 := n2_
        have HB := n3_
        clear n0_ n1_ n2_ n3_
        clear hb ho8
        refine hK.out _ _ ⟨(blk_cell BK101.out 0).trans rfl, (blk_cell BK101.out 1).trans rfl, (blk_cell BK101.out 2).trans rfl, (blk_cell BK101.out 3).trans rfl, (blk_cell BK101.out 4).trans rfl⟩ (fun hHeld => ?_)
        clear hK K
        refine norm_ (a' := ?_) ?_ ?_
        rotate_left
        · show Act.put _ (some 9) _ = _
          simp only [Act.put, List.setIfInBounds_toArray, List.set_cons_zero, List.set_cons_succ, i64_w, i32_w]
          rfl
        refine two_ (i := 7) (j := 9) (Ni := some 12) (Nj := some 3) #[true, true, true, true, true, true, true, true, false, false, false] #[true, true, true, true, true, true, true, false, false, true, false] rfl rfl rfl rfl (two_of HT_.out (by kernel_rfl)) (by decide) (by decide) (fun K hK => ?_) (fun K hK => ?_)
        · skip
          refine Kd.R_append_rows_step Kd.string (w0 := w) w.heap.size (by rfl) (.tmp 9) (.tmp 11) 23 9 (.string ⟨#[]⟩) 16 rfl Try.underlying23 info9 rfl (by decide) (by omega) v104 y103 l0_3 _ _ _ (fun _ => True) (fun _ => False) rfl rfl ?aO ?aR (fun _ _ h => h) (fun _ h => h.elim) ?aF ?aB ?aS ?aL ?_
          (case aR => repeat (first | exact (Kd.C_below HR0_3.out HB.out) | (with_reducible refine Kd.C_alloc ?_ _) | (with_reducible refine Kd.C_drewN ?_ _) | (with_reducible refine Kd.C_drew ?_)))
          (case aB => exact (by repeat (first | (with_reducible first | exact HB.out | apply below_alloc | apply pw_below_drewN | apply below_drew1 | refine below_set ?_ GE101.out | refine below_set ?_ GE102.out) | exact HB.out)))
          (case aF => exact (fun _ _ => trivial))
          (case aO => exact (by (with_reducible repeat (first | apply Kd.R_alloc | apply Kd.R_drewN | apply Kd.R_drew)); exact HO105.out))
          (case aS => exact (below_size (by repeat (first | (with_reducible first | exact HB.out | apply below_alloc | apply pw_below_drewN | apply below_drew1 | refine below_set ?_ GE101.out | refine below_set ?_ GE102.out) | exact HB.out))))
          (case aL => have := LMc2.out; omega)
          intro v107 w9 ho hb hg hat
          rw [← Ny106.out] at ho
          have n0_ := Aside0.mk (blk_grown (g := gb101) (o := .cells #[.int .i64 a0_0, .int .i64 a0_1, .string a0_2, .slice A0_3 l0_3.length c0_3, .slice A0_4 l0_4.length c0_4] 26 (0, 0)) (by (with_reducible repeat (first | refine blk_drewN ?_ _ | refine blk_drew ?_ | refine blk_alloc ?_ _)); exact BK101.out) hg (Kd.R_ne HO105.out BK101.out (by decide)))
          have n1_ := Aside0.mk (blk_grown (g := gb102) (o := .cells #[.int .i64 0, .int .u64 0, .string (⟨#[]⟩ : ByteArray), .slice none 0 0, .slice none 0 0] 33 (0, 0)) (by (with_reducible repeat (first | refine blk_drewN ?_ _ | refine blk_drew ?_ | refine blk_alloc ?_ _)); exact BK102.out) hg (Kd.R_ne HO105.out BK102.out (by decide)))
          have n2_ := Aside0.mk (hb)
          have n3_ := Aside0.mk (ho)
          clear BK101
          clear BK102
          clear HB
          clear HO105
          have BK101 := n0_
          have BK102 := n1_
          have HB := n2_
          have HO108 := n3_
          clear n0_ n1_ n2_ n3_
          clear ho hb hg hat
          obtain ⟨Ao10, co10, eo10⟩ := Kd.R_slice HO108.out
          (first | subst eo10 | (injection eo10 with f1_ f2_ f3_; have f4_ := f1_.symm; have f5_ := f3_.symm; clear f1_ f2_ f3_; subst f4_; subst f5_))
          refine hK.out _ _ ⟨(blk_cell BK101.out 0).trans rfl, (blk_cell BK101.out 1).trans rfl, (blk_cell BK101.out 2).trans rfl, (blk_cell BK101.out 3).trans rfl, (blk_cell BK101.out 4).trans rfl⟩ (fun hHeld => ?_)
          clear hK K
          refine norm_ (a' := ?_) ?_ ?_
          rotate_left
          · show Act.put _ (some 12) _ = _
            simp only [Act.put, List.setIfInBounds_toArray, List.set_cons_zero, List.set_cons_succ, i64_w, i32_w]
            rfl
          refine pure_ (i := 8) (N := some 13) (v := ?_) (a' := ?_) #[true, true, true, true, true, true, true, true, true, false, false] rfl rfl (any_of HT_.out (by kernel_rfl)) (fun _ _ _ h => h) (Or.inl ⟨by rfl, ?_⟩) ?_ ?_
          rotate_left
          · intro w'
            go_simp
            with_reducible rfl
          rotate_left
          · simp only [Act.put, List.setIfInBounds_toArray, List.set_cons_zero, List.set_cons_succ, i64_w, i32_w]
            rfl
          refine one_ (i := 9) (N := some 3) #[true, true, true, true, true, true, true, true, true, true, false] rfl rfl (one_of HT_.out (by kernel_rfl)) (by decide) (fun K hK => ?_)
          refine box_step ?hg (N := 3) ?hd (cs := #[.int .i64 0, .int .u64 0, .string (⟨#[]⟩ : ByteArray), .slice none 0 0, .slice none 0 0]) (t := 33) ?hr ?_; (case hd => rfl); (case hg => rfl); (case hr => first | (go_simp; done) | (go_simp; rfl))
          intro gb109 hg w11 hbox hb
          have n0_ := Aside0.mk (Kd.R_below (by (with_reducible repeat (first | apply Kd.R_alloc | apply Kd.R_drewN | apply Kd.R_drew)); exact HO108.out) hb)
          have n1_ := Aside0.mk (blk_below (g := gb101) (o := .cells #[.int .i64 a0_0, .int .i64 a0_1, .string a0_2, .slice A0_3 l0_3.length c0_3, .slice A0_4 l0_4.length c0_4] 26 (0, 0)) (by (with_reducible repeat (first | refine blk_drewN ?_ _ | refine blk_drew ?_ | refine blk_alloc ?_ _)); exact BK101.out) hb)
          have n2_ := Aside0.mk (blk_below (g := gb102) (o := .cells #[.int .i64 0, .int .u64 0, .string (⟨#[]⟩ : ByteArray), .slice none 0 0, .slice none 0 0] 33 (0, 0)) (by (with_reducible repeat (first | refine blk_drewN ?_ _ | refine blk_drew ?_ | refine blk_alloc ?_ _)); exact BK102.out) hb)
          have n3_ := Aside0.mk (below_step (by repeat (first | (with_reducible first | exact HB.out | apply below_alloc | apply pw_below_drewN | apply below_drew1 | refine below_set ?_ GE101.out | refine below_set ?_ GE102.out) | exact HB.out)) hb)
          have n4_ := Aside0.mk (hbox)
          have n5_ := Aside0.mk ((by rw [hg]; exact (below_size (by repeat (first | (with_reducible first | exact HB.out | apply below_alloc | apply pw_below_drewN | apply below_drew1 | refine below_set ?_ GE101.out | refine below_set ?_ GE102.out) | exact HB.out))) : w.heap.size ≤ gb109))
          have n6_ := Aside0.mk ((by rw [hg]; exact (below_size (by repeat (first | (with_reducible first | exact HB.out | apply below_alloc | apply pw_below_drewN | apply below_drew1 | refine below_set ?_ GE101.out | refine below_set ?_ GE102.out) | exact HB.out))) : w.heap.size ≤ gb109))
          have n7_ := Aside0.mk ((by rw [hg]; exact Nat.ne_of_lt (blk_lt (g := gb101) (o := .cells #[.int .i64 a0_0, .int .i64 a0_1, .string a0_2, .slice A0_3 l0_3.length c0_3, .slice A0_4 l0_4.length c0_4] 26 (0, 0)) (by (with_reducible repeat (first | refine blk_drewN ?_ _ | refine blk_drew ?_ | refine blk_alloc ?_ _)); exact BK101.out)) : gb101 ≠ gb109))
          have n8_ := Aside0.mk ((by rw [hg]; exact Nat.ne_of_gt (blk_lt (g := gb101) (o := .cells #[.int .i64 a0_0, .int .i64 a0_1, .string a0_2, .slice A0_3 l0_3.length c0_3, .slice A0_4 l0_4.length c0_4] 26 (0, 0)) (by (with_reducible repeat (first | refine blk_drewN ?_ _ | refine blk_drew ?_ | refine blk_alloc ?_ _)); exact BK101.out)) : gb109 ≠ gb101))
          have n9_ := Aside0.mk ((by rw [hg]; exact Nat.ne_of_lt (blk_lt (g := gb102) (o := .cells #[.int .i64 0, .int .u64 0, .string (⟨#[]⟩ : ByteArray), .slice none 0 0, .slice none 0 0] 33 (0, 0)) (by (with_reducible repeat (first | refine blk_drewN ?_ _ | refine blk_drew ?_ | refine blk_alloc ?_ _)); exact BK102.out)) : gb102 ≠ gb109))
          have n10_ := Aside0.mk ((by rw [hg]; exact Nat.ne_of_gt (blk_lt (g := gb102) (o := .cells #[.int .i64 0, .int .u64 0, .string (⟨#[]⟩ : ByteArray), .slice none 0 0, .slice none 0 0] 33 (0, 0)) (by (with_reducible repeat (first | refine blk_drewN ?_ _ | refine blk_drew ?_ | refine blk_alloc ?_ _)); exact BK102.out)) : gb109 ≠ gb102))
          clear HO108
          clear BK101
          clear BK102
          clear HB
          have HO108 := n0_
          have BK101 := n1_
          have BK102 := n2_
          have HB := n3_
          have BK109 := n4_
          have GW109 := n5_
          have GE109 := n6_
          have NB101_109 := n7_
          have NB109_101 := n8_
          have NB102_109 := n9_
          have NB109_102 := n10_
          clear n0_ n1_ n2_ n3_ n4_ n5_ n6_ n7_ n8_ n9_ n10_
          clear hb hbox hg
          refine hK.out _ _ ⟨(blk_cell BK101.out 0).trans rfl, (blk_cell BK101.out 1).trans rfl, (blk_cell BK101.out 2).trans rfl, (blk_cell BK101.out 3).trans rfl, (blk_cell BK101.out 4).trans rfl⟩ (fun hHeld => ?_)
          clear hK K
          refine norm_ (a' := ?_) ?_ ?_
          rotate_left
          · show Act.put _ (some 3) _ = _
            simp only [Act.put, List.setIfInBounds_toArray, List.set_cons_zero, List.set_cons_succ, i64_w, i32_w]
            rfl
          exact norm_ (by simp only [putAll, Act.put, List.setIfInBounds_toArray, List.set_cons_zero, List.set_cons_succ]) (hCont (v104, .slice Ao10 y106.length co10, gb109) _ ⟨hHeld, (by (with_reducible repeat (first | apply Kd.R_alloc | apply Kd.R_drewN | apply Kd.R_drew)); exact HO108.out), (by (with_reducible repeat (first | refine blk_drewN ?_ _ | refine blk_drew ?_ | refine blk_alloc ?_ _)); exact BK101.out), (by (with_reducible repeat (first | refine blk_drewN ?_ _ | refine blk_drew ?_ | refine blk_alloc ?_ _)); exact BK102.out), (by (with_reducible repeat (first | refine blk_drewN ?_ _ | refine blk_drew ?_ | refine blk_alloc ?_ _)); exact BK109.out), GW109.out, GE109.out, NB101_109.out, NB109_101.out, NB102_109.out, NB109_102.out, (by repeat (first | (with_reducible first | exact HB.out | apply below_alloc | apply pw_below_drewN | apply below_drew1 | refine below_set ?_ GE101.out | refine below_set ?_ GE102.out | refine below_set ?_ GE109.out) | exact HB.out))⟩)
        · skip
          refine box_step ?hg (N := 3) ?hd (cs := #[.int .i64 0, .int .u64 0, .string (⟨#[]⟩ : ByteArray), .slice none 0 0, .slice none 0 0]) (t := 33) ?hr ?_; (case hd => rfl); (case hg => rfl); (case hr => first | (go_simp; done) | (go_simp; rfl))
          intro gb109 hg w9 hbox hb
          have n0_ := Aside0.mk (Kd.R_below (by (with_reducible repeat (first | apply Kd.R_alloc | apply Kd.R_drewN | apply Kd.R_drew)); exact HO105.out) hb)
          have n1_ := Aside0.mk (blk_below (g := gb101) (o := .cells #[.int .i64 a0_0, .int .i64 a0_1, .string a0_2, .slice A0_3 l0_3.length c0_3, .slice A0_4 l0_4.length c0_4] 26 (0, 0)) (by (with_reducible repeat (first | refine blk_drewN ?_ _ | refine blk_drew ?_ | refine blk_alloc ?_ _)); exact BK101.out) hb)
          have n2_ := Aside0.mk (blk_below (g := gb102) (o := .cells #[.int .i64 0, .int .u64 0, .string (⟨#[]⟩ : ByteArray), .slice none 0 0, .slice none 0 0] 33 (0, 0)) (by (with_reducible repeat (first | refine blk_drewN ?_ _ | refine blk_drew ?_ | refine blk_alloc ?_ _)); exact BK102.out) hb)
          have n3_ := Aside0.mk (below_step (by repeat (first | (with_reducible first | exact HB.out | apply below_alloc | apply pw_below_drewN | apply below_drew1 | refine below_set ?_ GE101.out | refine below_set ?_ GE102.out) | exact HB.out)) hb)
          have n4_ := Aside0.mk (hbox)
          have n5_ := Aside0.mk ((by rw [hg]; exact (below_size (by repeat (first | (with_reducible first | exact HB.out | apply below_alloc | apply pw_below_drewN | apply below_drew1 | refine below_set ?_ GE101.out | refine below_set ?_ GE102.out) | exact HB.out))) : w.heap.size ≤ gb109))
          have n6_ := Aside0.mk ((by rw [hg]; exact (below_size (by repeat (first | (with_reducible first | exact HB.out | apply below_alloc | apply pw_below_drewN | apply below_drew1 | refine below_set ?_ GE101.out | refine below_set ?_ GE102.out) | exact HB.out))) : w.heap.size ≤ gb109))
          have n7_ := Aside0.mk ((by rw [hg]; exact Nat.ne_of_lt (blk_lt (g := gb101) (o := .cells #[.int .i64 a0_0, .int .i64 a0_1, .string a0_2, .slice A0_3 l0_3.length c0_3, .slice A0_4 l0_4.length c0_4] 26 (0, 0)) (by (with_reducible repeat (first | refine blk_drewN ?_ _ | refine blk_drew ?_ | refine blk_alloc ?_ _)); exact BK101.out)) : gb101 ≠ gb109))
          have n8_ := Aside0.mk ((by rw [hg]; exact Nat.ne_of_gt (blk_lt (g := gb101) (o := .cells #[.int .i64 a0_0, .int .i64 a0_1, .string a0_2, .slice A0_3 l0_3.length c0_3, .slice A0_4 l0_4.length c0_4] 26 (0, 0)) (by (with_reducible repeat (first | refine blk_drewN ?_ _ | refine blk_drew ?_ | refine blk_alloc ?_ _)); exact BK101.out)) : gb109 ≠ gb101))
          have n9_ := Aside0.mk ((by rw [hg]; exact Nat.ne_of_lt (blk_lt (g := gb102) (o := .cells #[.int .i64 0, .int .u64 0, .string (⟨#[]⟩ : ByteArray), .slice none 0 0, .slice none 0 0] 33 (0, 0)) (by (with_reducible repeat (first | refine blk_drewN ?_ _ | refine blk_drew ?_ | refine blk_alloc ?_ _)); exact BK102.out)) : gb102 ≠ gb109))
          have n10_ := Aside0.mk ((by rw [hg]; exact Nat.ne_of_gt (blk_lt (g := gb102) (o := .cells #[.int .i64 0, .int .u64 0, .string (⟨#[]⟩ : ByteArray), .slice none 0 0, .slice none 0 0] 33 (0, 0)) (by (with_reducible repeat (first | refine blk_drewN ?_ _ | refine blk_drew ?_ | refine blk_alloc ?_ _)); exact BK102.out)) : gb109 ≠ gb102))
          clear HO105
          clear BK101
          clear BK102
          clear HB
          have HO105 := n0_
          have BK101 := n1_
          have BK102 := n2_
          have HB := n3_
          have BK109 := n4_
          have GW109 := n5_
          have GE109 := n6_
          have NB101_109 := n7_
          have NB109_101 := n8_
          have NB102_109 := n9_
          have NB109_102 := n10_
          clear n0_ n1_ n2_ n3_ n4_ n5_ n6_ n7_ n8_ n9_ n10_
          clear hb hbox hg
          refine hK.out _ _ ⟨(blk_cell BK101.out 0).trans rfl, (blk_cell BK101.out 1).trans rfl, (blk_cell BK101.out 2).trans rfl, (blk_cell BK101.out 3).trans rfl, (blk_cell BK101.out 4).trans rfl⟩ (fun hHeld => ?_)
          clear hK K
          refine norm_ (a' := ?_) ?_ ?_
          rotate_left
          · show Act.put _ (some 3) _ = _
            simp only [Act.put, List.setIfInBounds_toArray, List.set_cons_zero, List.set_cons_succ, i64_w, i32_w]
            rfl
          refine one_ (i := 7) (N := some 12) #[true, true, true, true, true, true, true, true, false, true, false] rfl rfl (one_of HT_.out (by kernel_rfl)) (by decide) (fun K hK => ?_)
          refine Kd.R_append_rows_step Kd.string (w0 := w) w.heap.size (by rfl) (.tmp 9) (.tmp 11) 23 9 (.string ⟨#[]⟩) 16 rfl Try.underlying23 info9 rfl (by decide) (by omega) v104 y103 l0_3 _ _ _ (fun _ => True) (fun _ => False) rfl rfl ?aO ?aR (fun _ _ h => h) (fun _ h => h.elim) ?aF ?aB ?aS ?aL ?_
          (case aR => repeat (first | exact (Kd.C_below HR0_3.out HB.out) | (with_reducible refine Kd.C_alloc ?_ _) | (with_reducible refine Kd.C_drewN ?_ _) | (with_reducible refine Kd.C_drew ?_)))
          (case aB => exact (by repeat (first | (with_reducible first | exact HB.out | apply below_alloc | apply pw_below_drewN | apply below_drew1 | refine below_set ?_ GE101.out | refine below_set ?_ GE102.out | refine below_set ?_ GE109.out) | exact HB.out)))
          (case aF => exact (fun _ _ => trivial))
          (case aO => exact (by (with_reducible repeat (first | apply Kd.R_alloc | apply Kd.R_drewN | apply Kd.R_drew)); exact HO105.out))
          (case aS => exact (below_size (by repeat (first | (with_reducible first | exact HB.out | apply below_alloc | apply pw_below_drewN | apply below_drew1 | refine below_set ?_ GE101.out | refine below_set ?_ GE102.out | refine below_set ?_ GE109.out) | exact HB.out))))
          (case aL => have := LMc2.out; omega)
          intro v107 w10 ho hb hg hat
          rw [← Ny106.out] at ho
          have n0_ := Aside0.mk (blk_grown (g := gb101) (o := .cells #[.int .i64 a0_0, .int .i64 a0_1, .string a0_2, .slice A0_3 l0_3.length c0_3, .slice A0_4 l0_4.length c0_4] 26 (0, 0)) (by (with_reducible repeat (first | refine blk_drewN ?_ _ | refine blk_drew ?_ | refine blk_alloc ?_ _)); exact BK101.out) hg (Kd.R_ne HO105.out BK101.out (by decide)))
          have n1_ := Aside0.mk (blk_grown (g := gb102) (o := .cells #[.int .i64 0, .int .u64 0, .string (⟨#[]⟩ : ByteArray), .slice none 0 0, .slice none 0 0] 33 (0, 0)) (by (with_reducible repeat (first | refine blk_drewN ?_ _ | refine blk_drew ?_ | refine blk_alloc ?_ _)); exact BK102.out) hg (Kd.R_ne HO105.out BK102.out (by decide)))
          have n2_ := Aside0.mk (blk_grown (g := gb109) (o := .cells #[.int .i64 0, .int .u64 0, .string (⟨#[]⟩ : ByteArray), .slice none 0 0, .slice none 0 0] 33 (0, 0)) (by (with_reducible repeat (first | refine blk_drewN ?_ _ | refine blk_drew ?_ | refine blk_alloc ?_ _)); exact BK109.out) hg (Kd.R_ne HO105.out BK109.out (by decide)))
          have n3_ := Aside0.mk (hb)
          have n4_ := Aside0.mk (ho)
          clear BK101
          clear BK102
          clear BK109
          clear HB
          clear HO105
          have BK101 := n0_
          have BK102 := n1_
          have BK109 := n2_
          have HB := n3_
          have HO108 := n4_
          clear n0_ n1_ n2_ n3_ n4_
          clear ho hb hg hat
          obtain ⟨Ao11, co11, eo11⟩ := Kd.R_slice HO108.out
          (first | subst eo11 | (injection eo11 with f1_ f2_ f3_; have f4_ := f1_.symm; have f5_ := f3_.symm; clear f1_ f2_ f3_; subst f4_; subst f5_))
          refine hK.out _ _ ⟨(blk_cell BK101.out 0).trans rfl, (blk_cell BK101.out 1).trans rfl, (blk_cell BK101.out 2).trans rfl, (blk_cell BK101.out 3).trans rfl, (blk_cell BK101.out 4).trans rfl⟩ (fun hHeld => ?_)
          clear hK K
          refine norm_ (a' := ?_) ?_ ?_
          rotate_left
          · show Act.put _ (some 12) _ = _
            simp only [Act.put, List.setIfInBounds_toArray, List.set_cons_zero, List.set_cons_succ, i64_w, i32_w]
            rfl
          refine pure_ (i := 8) (N := some 13) (v := ?_) (a' := ?_) #[true, true, true, true, true, true, true, true, true, true, false] rfl rfl (any_of HT_.out (by kernel_rfl)) (fun _ _ _ h => h) (Or.inl ⟨by rfl, ?_⟩) ?_ ?_
          rotate_left
          · intro w'
            go_simp
            with_reducible rfl
          rotate_left
          · simp only [Act.put, List.setIfInBounds_toArray, List.set_cons_zero, List.set_cons_succ, i64_w, i32_w]
            rfl
          exact norm_ (by simp only [putAll, Act.put, List.setIfInBounds_toArray, List.set_cons_zero, List.set_cons_succ]) (hCont (v104, .slice Ao11 y106.length co11, gb109) _ ⟨hHeld, (by (with_reducible repeat (first | apply Kd.R_alloc | apply Kd.R_drewN | apply Kd.R_drew)); exact HO108.out), (by (with_reducible repeat (first | refine blk_drewN ?_ _ | refine blk_drew ?_ | refine blk_alloc ?_ _)); exact BK101.out), (by (with_reducible repeat (first | refine blk_drewN ?_ _ | refine blk_drew ?_ | refine blk_alloc ?_ _)); exact BK102.out), (by (with_reducible repeat (first | refine blk_drewN ?_ _ | refine blk_drew ?_ | refine blk_alloc ?_ _)); exact BK109.out), GW109.out, GE109.out, NB101_109.out, NB109_101.out, NB102_109.out, NB109_102.out, (by repeat (first | (with_reducible first | exact HB.out | apply below_alloc | apply pw_below_drewN | apply below_drew1 | refine below_set ?_ GE101.out | refine below_set ?_ GE102.out | refine below_set ?_ GE109.out) | exact HB.out))⟩)
      · skip
        refine box_step ?hg (N := 3) ?hd (cs := #[.int .i64 0, .int .u64 0, .string (⟨#[]⟩ : ByteArray), .slice none 0 0, .slice none 0 0]) (t := 33) ?hr ?_; (case hd => rfl); (case hg => rfl); (case hr => first | (go_simp; done) | (go_simp; rfl))
        intro gb109 hg w7 hbox hb
        have n0_ := Aside0.mk (blk_below (g := gb101) (o := .cells #[.int .i64 a0_0, .int .i64 a0_1, .string a0_2, .slice A0_3 l0_3.length c0_3, .slice A0_4 l0_4.length c0_4] 26 (0, 0)) (by (with_reducible repeat (first | refine blk_drewN ?_ _ | refine blk_drew ?_ | refine blk_alloc ?_ _)); exact BK101.out) hb)
        have n1_ := Aside0.mk (blk_below (g := gb102) (o := .cells #[.int .i64 0, .int .u64 0, .string (⟨#[]⟩ : ByteArray), .slice none 0 0, .slice none 0 0] 33 (0, 0)) (by (with_reducible repeat (first | refine blk_drewN ?_ _ | refine blk_drew ?_ | refine blk_alloc ?_ _)); exact BK102.out) hb)
        have n2_ := Aside0.mk (below_step (by repeat (first | (with_reducible first | exact HB.out | apply below_alloc | apply pw_below_drewN | apply below_drew1 | refine below_set ?_ GE101.out | refine below_set ?_ GE102.out) | exact HB.out)) hb)
        have n3_ := Aside0.mk (hbox)
        have n4_ := Aside0.mk ((by rw [hg]; exact (below_size (by repeat (first | (with_reducible first | exact HB.out | apply below_alloc | apply pw_below_drewN | apply below_drew1 | refine below_set ?_ GE101.out | refine below_set ?_ GE102.out) | exact HB.out))) : w.heap.size ≤ gb109))
        have n5_ := Aside0.mk ((by rw [hg]; exact (below_size (by repeat (first | (with_reducible first | exact HB.out | apply below_alloc | apply pw_below_drewN | apply below_drew1 | refine below_set ?_ GE101.out | refine below_set ?_ GE102.out) | exact HB.out))) : w.heap.size ≤ gb109))
        have n6_ := Aside0.mk ((by rw [hg]; exact Nat.ne_of_lt (blk_lt (g := gb101) (o := .cells #[.int .i64 a0_0, .int .i64 a0_1, .string a0_2, .slice A0_3 l0_3.length c0_3, .slice A0_4 l0_4.length c0_4] 26 (0, 0)) (by (with_reducible repeat (first | refine blk_drewN ?_ _ | refine blk_drew ?_ | refine blk_alloc ?_ _)); exact BK101.out)) : gb101 ≠ gb109))
        have n7_ := Aside0.mk ((by rw [hg]; exact Nat.ne_of_gt (blk_lt (g := gb101) (o := .cells #[.int .i64 a0_0, .int .i64 a0_1, .string a0_2, .slice A0_3 l0_3.length c0_3, .slice A0_4 l0_4.length c0_4] 26 (0, 0)) (by (with_reducible repeat (first | refine blk_drewN ?_ _ | refine blk_drew ?_ | refine blk_alloc ?_ _)); exact BK101.out)) : gb109 ≠ gb101))
        have n8_ := Aside0.mk ((by rw [hg]; exact Nat.ne_of_lt (blk_lt (g := gb102) (o := .cells #[.int .i64 0, .int .u64 0, .string (⟨#[]⟩ : ByteArray), .slice none 0 0, .slice none 0 0] 33 (0, 0)) (by (with_reducible repeat (first | refine blk_drewN ?_ _ | refine blk_drew ?_ | refine blk_alloc ?_ _)); exact BK102.out)) : gb102 ≠ gb109))
        have n9_ := Aside0.mk ((by rw [hg]; exact Nat.ne_of_gt (blk_lt (g := gb102) (o := .cells #[.int .i64 0, .int .u64 0, .string (⟨#[]⟩ : ByteArray), .slice none 0 0, .slice none 0 0] 33 (0, 0)) (by (with_reducible repeat (first | refine blk_drewN ?_ _ | refine blk_drew ?_ | refine blk_alloc ?_ _)); exact BK102.out)) : gb109 ≠ gb102))
        clear BK101
        clear BK102
        clear HB
        have BK101 := n0_
        have BK102 := n1_
        have HB := n2_
        have BK109 := n3_
        have GW109 := n4_
        have GE109 := n5_
        have NB101_109 := n6_
        have NB109_101 := n7_
        have NB102_109 := n8_
        have NB109_102 := n9_
        clear n0_ n1_ n2_ n3_ n4_ n5_ n6_ n7_ n8_ n9_
        clear hb hbox hg
        refine hK.out _ _ ⟨(blk_cell BK101.out 0).trans rfl, (blk_cell BK101.out 1).trans rfl, (blk_cell BK101.out 2).trans rfl, (blk_cell BK101.out 3).trans rfl, (blk_cell BK101.out 4).trans rfl⟩ (fun hHeld => ?_)
        clear hK K
        refine norm_ (a' := ?_) ?_ ?_
        rotate_left
        · show Act.put _ (some 3) _ = _
          simp only [Act.put, List.setIfInBounds_toArray, List.set_cons_zero, List.set_cons_succ, i64_w, i32_w]
          rfl
        refine one_ (i := 4) (N := some 9) #[true, true, true, true, true, true, true, false, false, true, false] rfl rfl (one_of HT_.out (by kernel_rfl)) (by decide) (fun K hK => ?_)
        refine Kd.R_lit_step Kd.string _ 9 ?hg (N := 9) ?hd (xs := ([] : List ByteArray)) (inner := []) (ok := fun _ => True) (okp := fun _ => True) ?hr ?hp (fun _ hk => hk) trivial (Below.refl _ _) (Nat.le_refl _) (by simp) ?_; (case hd => rfl); (case hg => rfl); (case hr => first | (go_simp; done) | (go_simp; rfl)); (case hp => exact (Reps.none _ _))
        intro v104 w8 ho9 hb hg_ hnew_
        clear hg_ hnew_
        (first | rw [← Ny103.out] at ho9 | (simp only [Int.reduceToNat] at ho9; rw [← Ny103.out] at ho9))
        have n0_ := Aside0.mk (Kd.R_lower ho9 (below_size (by repeat (first | (with_reducible first | exact HB.out | apply below_alloc | apply pw_below_drewN | apply below_drew1 | refine below_set ?_ GE101.out | refine below_set ?_ GE102.out | refine below_set ?_ GE109.out) | exact HB.out))))
        have n1_ := Aside0.mk (blk_below (g := gb101) (o := .cells #[.int .i64 a0_0, .int .i64 a0_1, .string a0_2, .slice A0_3 l0_3.length c0_3, .slice A0_4 l0_4.length c0_4] 26 (0, 0)) (by (with_reducible repeat (first | refine blk_drewN ?_ _ | refine blk_drew ?_ | refine blk_alloc ?_ _)); exact BK101.out) hb)
        have n2_ := Aside0.mk (blk_below (g := gb102) (o := .cells #[.int .i64 0, .int .u64 0, .string (⟨#[]⟩ : ByteArray), .slice none 0 0, .slice none 0 0] 33 (0, 0)) (by (with_reducible repeat (first | refine blk_drewN ?_ _ | refine blk_drew ?_ | refine blk_alloc ?_ _)); exact BK102.out) hb)
        have n3_ := Aside0.mk (blk_below (g := gb109) (o := .cells #[.int .i64 0, .int .u64 0, .string (⟨#[]⟩ : ByteArray), .slice none 0 0, .slice none 0 0] 33 (0, 0)) (by (with_reducible repeat (first | refine blk_drewN ?_ _ | refine blk_drew ?_ | refine blk_alloc ?_ _)); exact BK109.out) hb)
        have n4_ := Aside0.mk (below_step (by repeat (first | (with_reducible first | exact HB.out | apply below_alloc | apply pw_below_drewN | apply below_drew1 | refine below_set ?_ GE101.out | refine below_set ?_ GE102.out | refine below_set ?_ GE109.out) | exact HB.out)) hb)
        clear BK101
        clear BK102
        clear BK109
        clear HB
        have HO105 := n0_
        have BK101 := n1_
        have BK102 := n2_
        have BK109 := n3_
        have HB := n4_
        clear n0_ n1_ n2_ n3_ n4_
        clear hb ho9
        refine hK.out _ _ ⟨(blk_cell BK101.out 0).trans rfl, (blk_cell BK101.out 1).trans rfl, (blk_cell BK101.out 2).trans rfl, (blk_cell BK101.out 3).trans rfl, (blk_cell BK101.out 4).trans rfl⟩ (fun hHeld => ?_)
        clear hK K
        refine norm_ (a' := ?_) ?_ ?_
        rotate_left
        · show Act.put _ (some 9) _ = _
          simp only [Act.put, List.setIfInBounds_toArray, List.set_cons_zero, List.set_cons_succ, i64_w, i32_w]
          rfl
        refine one_ (i := 7) (N := some 12) #[true, true, true, true, true, true, true, true, false, true, false] rfl rfl (one_of HT_.out (by kernel_rfl)) (by decide) (fun K hK => ?_)
        refine Kd.R_append_rows_step Kd.string (w0 := w) w.heap.size (by rfl) (.tmp 9) (.tmp 11) 23 9 (.string ⟨#[]⟩) 16 rfl Try.underlying23 info9 rfl (by decide) (by omega) v104 y103 l0_3 _ _ _ (fun _ => True) (fun _ => False) rfl rfl ?aO ?aR (fun _ _ h => h) (fun _ h => h.elim) ?aF ?aB ?aS ?aL ?_
        (case aR => repeat (first | exact (Kd.C_below HR0_3.out HB.out) | (with_reducible refine Kd.C_alloc ?_ _) | (with_reducible refine Kd.C_drewN ?_ _) | (with_reducible refine Kd.C_drew ?_)))
        (case aB => exact (by repeat (first | (with_reducible first | exact HB.out | apply below_alloc | apply pw_below_drewN | apply below_drew1 | refine below_set ?_ GE101.out | refine below_set ?_ GE102.out | refine below_set ?_ GE109.out) | exact HB.out)))
        (case aF => exact (fun _ _ => trivial))
        (case aO => exact (by (with_reducible repeat (first | apply Kd.R_alloc | apply Kd.R_drewN | apply Kd.R_drew)); exact HO105.out))
        (case aS => exact (below_size (by repeat (first | (with_reducible first | exact HB.out | apply below_alloc | apply pw_below_drewN | apply below_drew1 | refine below_set ?_ GE101.out | refine below_set ?_ GE102.out | refine below_set ?_ GE109.out) | exact HB.out))))
        (case aL => have := LMc2.out; omega)
        intro v107 w10 ho hb hg hat
        rw [← Ny106.out] at ho
        have n0_ := Aside0.mk (blk_grown (g := gb101) (o := .cells #[.int .i64 a0_0, .int .i64 a0_1, .string a0_2, .slice A0_3 l0_3.length c0_3, .slice A0_4 l0_4.length c0_4] 26 (0, 0)) (by (with_reducible repeat (first | refine blk_drewN ?_ _ | refine blk_drew ?_ | refine blk_alloc ?_ _)); exact BK101.out) hg (Kd.R_ne HO105.out BK101.out (by decide)))
        have n1_ := Aside0.mk (blk_grown (g := gb102) (o := .cells #[.int .i64 0, .int .u64 0, .string (⟨#[]⟩ : ByteArray), .slice none 0 0, .slice none 0 0] 33 (0, 0)) (by (with_reducible repeat (first | refine blk_drewN ?_ _ | refine blk_drew ?_ | refine blk_alloc ?_ _)); exact BK102.out) hg (Kd.R_ne HO105.out BK102.out (by decide)))
        have n2_ := Aside0.mk (blk_grown (g := gb109) (o := .cells #[.int .i64 0, .int .u64 0, .string (⟨#[]⟩ : ByteArray), .slice none 0 0, .slice none 0 0] 33 (0, 0)) (by (with_reducible repeat (first | refine blk_drewN ?_ _ | refine blk_drew ?_ | refine blk_alloc ?_ _)); exact BK109.out) hg (Kd.R_ne HO105.out BK109.out (by decide)))
        have n3_ := Aside0.mk (hb)
        have n4_ := Aside0.mk (ho)
        clear BK101
        clear BK102
        clear BK109
        clear HB
        clear HO105
        have BK101 := n0_
        have BK102 := n1_
        have BK109 := n2_
        have HB := n3_
        have HO108 := n4_
        clear n0_ n1_ n2_ n3_ n4_
        clear ho hb hg hat
        obtain ⟨Ao11, co11, eo11⟩ := Kd.R_slice HO108.out
        (first | subst eo11 | (injection eo11 with f1_ f2_ f3_; have f4_ := f1_.symm; have f5_ := f3_.symm; clear f1_ f2_ f3_; subst f4_; subst f5_))
        refine hK.out _ _ ⟨(blk_cell BK101.out 0).trans rfl, (blk_cell BK101.out 1).trans rfl, (blk_cell BK101.out 2).trans rfl, (blk_cell BK101.out 3).trans rfl, (blk_cell BK101.out 4).trans rfl⟩ (fun hHeld => ?_)
        clear hK K
        refine norm_ (a' := ?_) ?_ ?_
        rotate_left
        · show Act.put _ (some 12) _ = _
          simp only [Act.put, List.setIfInBounds_toArray, List.set_cons_zero, List.set_cons_succ, i64_w, i32_w]
          rfl
        refine pure_ (i := 8) (N := some 13) (v := ?_) (a' := ?_) #[true, true, true, true, true, true, true, true, true, true, false] rfl rfl (any_of HT_.out (by kernel_rfl)) (fun _ _ _ h => h) (Or.inl ⟨by rfl, ?_⟩) ?_ ?_
        rotate_left
        · intro w'
          go_simp
          with_reducible rfl
        rotate_left
        · simp only [Act.put, List.setIfInBounds_toArray, List.set_cons_zero, List.set_cons_succ, i64_w, i32_w]
          rfl
        exact norm_ (by simp only [putAll, Act.put, List.setIfInBounds_toArray, List.set_cons_zero, List.set_cons_succ]) (hCont (v104, .slice Ao11 y106.length co11, gb109) _ ⟨hHeld, (by (with_reducible repeat (first | apply Kd.R_alloc | apply Kd.R_drewN | apply Kd.R_drew)); exact HO108.out), (by (with_reducible repeat (first | refine blk_drewN ?_ _ | refine blk_drew ?_ | refine blk_alloc ?_ _)); exact BK101.out), (by (with_reducible repeat (first | refine blk_drewN ?_ _ | refine blk_drew ?_ | refine blk_alloc ?_ _)); exact BK102.out), (by (with_reducible repeat (first | refine blk_drewN ?_ _ | refine blk_drew ?_ | refine blk_alloc ?_ _)); exact BK109.out), GW109.out, GE109.out, NB101_109.out, NB109_101.out, NB102_109.out, NB109_102.out, (by repeat (first | (with_reducible first | exact HB.out | apply below_alloc | apply pw_below_drewN | apply below_drew1 | refine below_set ?_ GE101.out | refine below_set ?_ GE102.out | refine below_set ?_ GE109.out) | exact HB.out))⟩)
    rintro ⟨v104, v107, gb109⟩ w12 ⟨hS_, h0_, h1_, h2_, h3_, h4_, h5_, h6_, h7_, h8_, h9_, h10_⟩
    have n0_ : Aside0 (Kd.R Kd.string 9 w12 w.heap.size (fun _ => True) v107 y106) := ⟨h0_⟩
    have n1_ : Aside0 (w12.heap[gb101]? = some (.cells #[.int .i64 a0_0, .int .i64 a0_1, .string a0_2, .slice A0_3 l0_3.length c0_3, .slice A0_4 l0_4.length c0_4] 26 (0, 0))) := ⟨h1_⟩
    have n2_ : Aside0 (w12.heap[gb102]? = some (.cells #[.int .i64 0, .int .u64 0, .string (⟨#[]⟩ : ByteArray), .slice none 0 0, .slice none 0 0] 33 (0, 0))) := ⟨h2_⟩
    have n3_ : Aside0 (w12.heap[gb109]? = some (.cells #[.int .i64 0, .int .u64 0, .string (⟨#[]⟩ : ByteArray), .slice none 0 0, .slice none 0 0] 33 (0, 0))) := ⟨h3_⟩
    have n4_ : Aside0 (w.heap.size ≤ gb109) := ⟨h4_⟩
    have n5_ : Aside0 (w.heap.size ≤ gb109) := ⟨h5_⟩
    have n6_ : Aside0 (gb101 ≠ gb109) := ⟨h6_⟩
    have n7_ : Aside0 (gb109 ≠ gb101) := ⟨h7_⟩
    have n8_ : Aside0 (gb102 ≠ gb109) := ⟨h8_⟩
    have n9_ : Aside0 (gb109 ≠ gb102) := ⟨h9_⟩
    have n10_ : Aside0 (Below w.heap.size w w12) := ⟨h10_⟩
    clear BK101
    clear BK102
    clear HB
    clear h0_ h1_ h2_ h3_ h4_ h5_ h6_ h7_ h8_ h9_ h10_
    have HO108 := n0_
    have BK101 := n1_
    have BK102 := n2_
    have BK109 := n3_
    have GW109 := n4_
    have GE109 := n5_
    have NB101_109 := n6_
    have NB109_101 := n7_
    have NB102_109 := n8_
    have NB109_102 := n9_
    have HB := n10_
    clear n0_ n1_ n2_ n3_ n4_ n5_ n6_ n7_ n8_ n9_ n10_
    have hHeld : w12.cell? ⟨gb101, 0, none⟩ = some (.int .i64 a0_0) ∧ w12.cell? ⟨gb101, 1, none⟩ = some (.int .i64 a0_1) ∧ w12.cell? ⟨gb101, 2, none⟩ = some (.string a0_2) ∧ w12.cell? ⟨gb101, 3, none⟩ = some (.slice A0_3 l0_3.length c0_3) ∧ w12.cell? ⟨gb101, 4, none⟩ = some (.slice A0_4 l0_4.length c0_4) := hS_
    obtain ⟨Ao13, co13, eo13⟩ := Kd.R_slice HO108.out
    (first | subst eo13 | (injection eo13 with f1_ f2_ f3_; have f4_ := f1_.symm; have f5_ := f3_.symm; clear f1_ f2_ f3_; subst f4_; subst f5_))
    refine norm_ (a' := ?_) ?_ ?_
    rotate_left
    · simp only [putAll, Act.put, List.setIfInBounds_toArray, List.set_cons_zero, List.set_cons_succ]
      rfl
    refine one_ (i := 10) (N := none) #[true, true, true, true, true, true, true, true, true, true, true] rfl rfl (one_of HT_.out (by kernel_rfl)) (by decide) (fun K hK => ?_)
    have hs14 : w12.cell? ⟨gb109, 0, none⟩ = some (.int .i64 0) := (blk_cell BK109.out 0).trans rfl
    have hfs14 := blk_frozen BK109.out 0
    have hns14_0 := NB101_109.out
    have hns14_1 := NB102_109.out
    have hms14_0 := NB109_101.out
    have hms14_1 := NB109_102.out
    have hs15 : w12.cell? ⟨gb109, 1, none⟩ = some (.int .u64 0) := (blk_cell BK109.out 1).trans rfl
    have hfs15 := blk_frozen BK109.out 1
    have hns15_0 := NB101_109.out
    have hns15_1 := NB102_109.out
    have hms15_0 := NB109_101.out
    have hms15_1 := NB109_102.out
    have hs16 : w12.cell? ⟨gb109, 2, none⟩ = some (.string (⟨#[]⟩ : ByteArray)) := (blk_cell BK109.out 2).trans rfl
    have hfs16 := blk_frozen BK109.out 2
    have hns16_0 := NB101_109.out
    have hns16_1 := NB102_109.out
    have hms16_0 := NB109_101.out
    have hms16_1 := NB109_102.out
    have hs17 : w12.cell? ⟨gb109, 3, none⟩ = some (.slice none 0 0) := (blk_cell BK109.out 3).trans rfl
    have hfs17 := blk_frozen BK109.out 3
    have hns17_0 := NB101_109.out
    have hns17_1 := NB102_109.out
    have hms17_0 := NB109_101.out
    have hms17_1 := NB109_102.out
    have hs18 : w12.cell? ⟨gb109, 4, none⟩ = some (.slice none 0 0) := (blk_cell BK109.out 4).trans rfl
    have hfs18 := blk_frozen BK109.out 4
    have hns18_0 := NB101_109.out
    have hns18_1 := NB102_109.out
    have hms18_0 := NB109_101.out
    have hms18_1 := NB109_102.out
    refine skip_ (w1 := ?_) (by rfl) rfl ?_ ?_
    rotate_left
    · go_simp
      rfl
    refine hK.out _ _ ⟨((cell_far (p := ⟨gb109, _, none⟩) NB101_109.out _).trans (((cell_far (p := ⟨gb109, _, none⟩) NB101_109.out _).trans (((cell_far (p := ⟨gb109, _, none⟩) NB101_109.out _).trans (((cell_far (p := ⟨gb109, _, none⟩) NB101_109.out _).trans (((cell_far (p := ⟨gb109, _, none⟩) NB101_109.out _).trans (hHeld.1)))))))))), ((cell_far (p := ⟨gb109, _, none⟩) NB101_109.out _).trans (((cell_far (p := ⟨gb109, _, none⟩) NB101_109.out _).trans (((cell_far (p := ⟨gb109, _, none⟩) NB101_109.out _).trans (((cell_far (p := ⟨gb109, _, none⟩) NB101_109.out _).trans (((cell_far (p := ⟨gb109, _, none⟩) NB101_109.out _).trans (hHeld.2.1)))))))))), ((cell_far (p := ⟨gb109, _, none⟩) NB101_109.out _).trans (((cell_far (p := ⟨gb109, _, none⟩) NB101_109.out _).trans (((cell_far (p := ⟨gb109, _, none⟩) NB101_109.out _).trans (((cell_far (p := ⟨gb109, _, none⟩) NB101_109.out _).trans (((cell_far (p := ⟨gb109, _, none⟩) NB101_109.out _).trans (hHeld.2.2.1)))))))))), ((cell_far (p := ⟨gb109, _, none⟩) NB101_109.out _).trans (((cell_far (p := ⟨gb109, _, none⟩) NB101_109.out _).trans (((cell_far (p := ⟨gb109, _, none⟩) NB101_109.out _).trans (((cell_far (p := ⟨gb109, _, none⟩) NB101_109.out _).trans (((cell_far (p := ⟨gb109, _, none⟩) NB101_109.out _).trans (hHeld.2.2.2.1)))))))))), ((cell_far (p := ⟨gb109, _, none⟩) NB101_109.out _).trans (((cell_far (p := ⟨gb109, _, none⟩) NB101_109.out _).trans (((cell_far (p := ⟨gb109, _, none⟩) NB101_109.out _).trans (((cell_far (p := ⟨gb109, _, none⟩) NB101_109.out _).trans (((cell_far (p := ⟨gb109, _, none⟩) NB101_109.out _).trans (hHeld.2.2.2.2))))))))))⟩ (fun hHeld => ?_)
    clear hK K
    refine done_ (done_of HT_.out (by kernel_rfl)) ?_
    have hnb19 := NB101_102.out
    have hnc19 := NB102_101.out
    have hnb20 := NB101_109.out
    have hnc20 := NB109_101.out
    have hcz21_0 : w12.cell? ⟨gb101, 0, none⟩ = some (.int .i64 a0_0) := (blk_cell BK101.out 0).trans rfl
    have hcz21_1 : w12.cell? ⟨gb101, 1, none⟩ = some (.int .i64 a0_1) := (blk_cell BK101.out 1).trans rfl
    have hcz21_2 : w12.cell? ⟨gb101, 2, none⟩ = some (.string a0_2) := (blk_cell BK101.out 2).trans rfl
    have hcz21_3 : w12.cell? ⟨gb101, 3, none⟩ = some (.slice A0_3 l0_3.length c0_3) := (blk_cell BK101.out 3).trans rfl
    have hcz21_4 : w12.cell? ⟨gb101, 4, none⟩ = some (.slice A0_4 l0_4.length c0_4) := (blk_cell BK101.out 4).trans rfl
    have hfz21_0 := blk_frozen BK101.out 0
    have hfz21_1 := blk_frozen BK101.out 1
    have hfz21_2 := blk_frozen BK101.out 2
    have hfz21_3 := blk_frozen BK101.out 3
    have hfz21_4 := blk_frozen BK101.out 4
    go_upto_if 16 with (fail)
    go_cut [] (fun wc => ∃ (kq : Nat) (x110001_2 : Int), Aside0 (laws_jsIn.j0 kq a0_0 a0_1 a0_2 l0_3 l0_4 a0_0 x110001_2 a0_2 y106 = some (r1, r2, r3, r4, r5)) ∧ Aside0 (kq ≤ k) ∧ Aside0 (Kd.R Kd.string 9 wc w.heap.size (fun _ => True) (.slice Ao13 y106.length co13) y106) ∧ Aside0 (wc.heap[gb101]? = some (.cells #[.int .i64 a0_0, .int .i64 a0_1, .string a0_2, (.slice A0_3 l0_3.length c0_3), (.slice A0_4 l0_4.length c0_4)] 26 (0, 0))) ∧ Aside0 (wc.heap[gb102]? = some (.cells #[.int .i64 0, .int .u64 0, .string (⟨#[]⟩ : ByteArray), (.slice none 0 0), (.slice none 0 0)] 33 (0, 0))) ∧ Aside0 (wc.heap[gb109]? = some (.cells #[.int .i64 a0_0, .int .u64 x110001_2, .string a0_2, (.slice Ao13 y106.length co13), (.slice none 0 0)] 33 (0, 0))) ∧ Aside0 (Below w.heap.size w wc))
    case first =>
      have H := HC3.out
      clear HC3
      by_cases c22 : a0_0 = 1
      · rw [if_pos c22] at H
        have c22b0 : (a0_0 == 1) = true := beq_iff_eq.mpr c22
        have c22b1 : (a0_0 != 1) = false := bne_eq_false_iff_eq.mpr c22
        clear c22
        (first | rw [c22b0] | (simp only [i64_w, i32_w]; rw [c22b0]) | skip)
        have H' := Aside0.mk H
        clear H
        have hnb23 := NB101_102.out
        have hnc23 := NB102_101.out
        have hnb24 := NB101_109.out
        have hnc24 := NB109_101.out
        have hcz25_0 : w12.cell? ⟨gb101, 0, none⟩ = some (.int .i64 a0_0) := (blk_cell BK101.out 0).trans rfl
        have hcz25_1 : w12.cell? ⟨gb101, 1, none⟩ = some (.int .i64 a0_1) := (blk_cell BK101.out 1).trans rfl
        have hcz25_2 : w12.cell? ⟨gb101, 2, none⟩ = some (.string a0_2) := (blk_cell BK101.out 2).trans rfl
        have hcz25_3 : w12.cell? ⟨gb101, 3, none⟩ = some (.slice A0_3 l0_3.length c0_3) := (blk_cell BK101.out 3).trans rfl
        have hcz25_4 : w12.cell? ⟨gb101, 4, none⟩ = some (.slice A0_4 l0_4.length c0_4) := (blk_cell BK101.out 4).trans rfl
        have hfz25_0 := blk_frozen BK101.out 0
        have hfz25_1 := blk_frozen BK101.out 1
        have hfz25_2 := blk_frozen BK101.out 2
        have hfz25_3 := blk_frozen BK101.out 3
        have hfz25_4 := blk_frozen BK101.out 4
        have hnb26 := NB109_102.out
        have hnc26 := NB102_109.out
        have hcz27_0 : w12.cell? ⟨gb109, 0, none⟩ = some (.int .i64 0) := (blk_cell BK109.out 0).trans rfl
        have hcz27_1 : w12.cell? ⟨gb109, 1, none⟩ = some (.int .u64 0) := (blk_cell BK109.out 1).trans rfl
        have hcz27_2 : w12.cell? ⟨gb109, 2, none⟩ = some (.string (⟨#[]⟩ : ByteArray)) := (blk_cell BK109.out 2).trans rfl
        have hcz27_3 : w12.cell? ⟨gb109, 3, none⟩ = some (.slice none 0 0) := (blk_cell BK109.out 3).trans rfl
        have hcz27_4 : w12.cell? ⟨gb109, 4, none⟩ = some (.slice none 0 0) := (blk_cell BK109.out 4).trans rfl
        have hfz27_0 := blk_frozen BK109.out 0
        have hfz27_1 := blk_frozen BK109.out 1
        have hfz27_2 := blk_frozen BK109.out 2
        have hfz27_3 := blk_frozen BK109.out 3
        have hfz27_4 := blk_frozen BK109.out 4
        go_wp2
        go_meet
        case rel => exact ⟨_, (IntKind.u64.wrap (a0_1)), H', ⟨by first | omega | exact Nat.le_refl _⟩, ⟨by (with_reducible repeat (first | apply Kd.R_alloc | apply Kd.R_drewN | apply Kd.R_drew)); exact Kd.R_mono (Kd.R_far (p := ⟨gb109, 1, none⟩) (Kd.R_far (p := ⟨gb109, 4, none⟩) (Kd.R_far (p := ⟨gb109, 3, none⟩) (Kd.R_far (p := ⟨gb109, 2, none⟩) (Kd.R_far (p := ⟨gb109, 1, none⟩) (Kd.R_far (p := ⟨gb109, 0, none⟩) (Kd.R_types HO108.out BK109.out (by decide)) (fun _ hk => hk.2) (.int .i64 a0_0)) (fun _ hk => hk.2) (.int .u64 0)) (fun _ hk => hk.2) (.string a0_2)) (fun _ hk => hk.2) (.slice Ao13 y106.length co13)) (fun _ hk => hk.2) (.slice none 0 0)) (fun _ hk => hk.2) (.int .u64 (IntKind.u64.wrap (a0_1)))) (fun _ hk => trivial)⟩, ⟨by (with_reducible repeat (first | refine blk_drewN ?_ _ | refine blk_drew ?_ | refine blk_alloc ?_ _)); refine blk_far ?_ NB101_109.out _; (with_reducible repeat (first | refine blk_drewN ?_ _ | refine blk_drew ?_ | refine blk_alloc ?_ _)); refine blk_far ?_ NB101_109.out _; (with_reducible repeat (first | refine blk_drewN ?_ _ | refine blk_drew ?_ | refine blk_alloc ?_ _)); refine blk_far ?_ NB101_109.out _; (with_reducible repeat (first | refine blk_drewN ?_ _ | refine blk_drew ?_ | refine blk_alloc ?_ _)); refine blk_far ?_ NB101_109.out _; (with_reducible repeat (first | refine blk_drewN ?_ _ | refine blk_drew ?_ | refine blk_alloc ?_ _)); refine blk_far ?_ NB101_109.out _; (with_reducible repeat (first | refine blk_drewN ?_ _ | refine blk_drew ?_ | refine blk_alloc ?_ _)); refine blk_far ?_ NB101_109.out _; (with_reducible repeat (first | refine blk_drewN ?_ _ | refine blk_drew ?_ | refine blk_alloc ?_ _)); exact BK101.out⟩, ⟨by (with_reducible repeat (first | refine blk_drewN ?_ _ | refine blk_drew ?_ | refine blk_alloc ?_ _)); refine blk_far ?_ NB102_109.out _; (with_reducible repeat (first | refine blk_drewN ?_ _ | refine blk_drew ?_ | refine blk_alloc ?_ _)); refine blk_far ?_ NB102_109.out _; (with_reducible repeat (first | refine blk_drewN ?_ _ | refine blk_drew ?_ | refine blk_alloc ?_ _)); refine blk_far ?_ NB102_109.out _; (with_reducible repeat (first | refine blk_drewN ?_ _ | refine blk_drew ?_ | refine blk_alloc ?_ _)); refine blk_far ?_ NB102_109.out _; (with_reducible repeat (first | refine blk_drewN ?_ _ | refine blk_drew ?_ | refine blk_alloc ?_ _)); refine blk_far ?_ NB102_109.out _; (with_reducible repeat (first | refine blk_drewN ?_ _ | refine blk_drew ?_ | refine blk_alloc ?_ _)); refine blk_far ?_ NB102_109.out _; (with_reducible repeat (first | refine blk_drewN ?_ _ | refine blk_drew ?_ | refine blk_alloc ?_ _)); exact BK102.out⟩, ⟨by (with_reducible repeat (first | refine blk_drewN ?_ _ | refine blk_drew ?_ | refine blk_alloc ?_ _)); refine blk_put (cs := #[.int .i64 a0_0, .int .u64 0, .string a0_2, .slice Ao13 y106.length co13, .slice none 0 0]) ?_ 1 _ rfl; (with_reducible repeat (first | refine blk_drewN ?_ _ | refine blk_drew ?_ | refine blk_alloc ?_ _)); refine blk_put (cs := #[.int .i64 a0_0, .int .u64 0, .string a0_2, .slice Ao13 y106.length co13, .slice none 0 0]) ?_ 4 _ rfl; (with_reducible repeat (first | refine blk_drewN ?_ _ | refine blk_drew ?_ | refine blk_alloc ?_ _)); refine blk_put (cs := #[.int .i64 a0_0, .int .u64 0, .string a0_2, .slice none 0 0, .slice none 0 0]) ?_ 3 _ rfl; (with_reducible repeat (first | refine blk_drewN ?_ _ | refine blk_drew ?_ | refine blk_alloc ?_ _)); refine blk_put (cs := #[.int .i64 a0_0, .int .u64 0, .string (⟨#[]⟩ : ByteArray), .slice none 0 0, .slice none 0 0]) ?_ 2 _ rfl; (with_reducible repeat (first | refine blk_drewN ?_ _ | refine blk_drew ?_ | refine blk_alloc ?_ _)); refine blk_put (cs := #[.int .i64 a0_0, .int .u64 0, .string (⟨#[]⟩ : ByteArray), .slice none 0 0, .slice none 0 0]) ?_ 1 _ rfl; (with_reducible repeat (first | refine blk_drewN ?_ _ | refine blk_drew ?_ | refine blk_alloc ?_ _)); refine blk_put (cs := #[.int .i64 0, .int .u64 0, .string (⟨#[]⟩ : ByteArray), .slice none 0 0, .slice none 0 0]) ?_ 0 _ rfl; (with_reducible repeat (first | refine blk_drewN ?_ _ | refine blk_drew ?_ | refine blk_alloc ?_ _)); exact BK109.out⟩, ⟨by repeat (first | (with_reducible first | exact HB.out | apply below_alloc | apply pw_below_drewN | apply below_drew1 | refine below_set ?_ GE101.out | refine below_set ?_ GE102.out | refine below_set ?_ GE109.out) | exact HB.out)⟩⟩
      · rw [if_neg c22] at H
        have c22b0 : (a0_0 == 1) = false := beq_eq_false_iff_ne.mpr c22
        have c22b1 : (a0_0 != 1) = true := bne_iff_ne.mpr c22
        (first | rw [c22b0] | (simp only [i64_w, i32_w]; rw [c22b0]) | skip)
        have H' := Aside0.mk H
        clear H
        go_wp2
        go_meet
        case rel => exact ⟨_, (0), H', ⟨by first | omega | exact Nat.le_refl _⟩, ⟨by (with_reducible repeat (first | apply Kd.R_alloc | apply Kd.R_drewN | apply Kd.R_drew)); exact Kd.R_mono (Kd.R_far (p := ⟨gb109, 4, none⟩) (Kd.R_far (p := ⟨gb109, 3, none⟩) (Kd.R_far (p := ⟨gb109, 2, none⟩) (Kd.R_far (p := ⟨gb109, 1, none⟩) (Kd.R_far (p := ⟨gb109, 0, none⟩) (Kd.R_types HO108.out BK109.out (by decide)) (fun _ hk => hk.2) (.int .i64 a0_0)) (fun _ hk => hk.2) (.int .u64 0)) (fun _ hk => hk.2) (.string a0_2)) (fun _ hk => hk.2) (.slice Ao13 y106.length co13)) (fun _ hk => hk.2) (.slice none 0 0)) (fun _ hk => trivial)⟩, ⟨by (with_reducible repeat (first | refine blk_drewN ?_ _ | refine blk_drew ?_ | refine blk_alloc ?_ _)); refine blk_far ?_ NB101_109.out _; (with_reducible repeat (first | refine blk_drewN ?_ _ | refine blk_drew ?_ | refine blk_alloc ?_ _)); refine blk_far ?_ NB101_109.out _; (with_reducible repeat (first | refine blk_drewN ?_ _ | refine blk_drew ?_ | refine blk_alloc ?_ _)); refine blk_far ?_ NB101_109.out _; (with_reducible repeat (first | refine blk_drewN ?_ _ | refine blk_drew ?_ | refine blk_alloc ?_ _)); refine blk_far ?_ NB101_109.out _; (with_reducible repeat (first | refine blk_drewN ?_ _ | refine blk_drew ?_ | refine blk_alloc ?_ _)); refine blk_far ?_ NB101_109.out _; (with_reducible repeat (first | refine blk_drewN ?_ _ | refine blk_drew ?_ | refine blk_alloc ?_ _)); exact BK101.out⟩, ⟨by (with_reducible repeat (first | refine blk_drewN ?_ _ | refine blk_drew ?_ | refine blk_alloc ?_ _)); refine blk_far ?_ NB102_109.out _; (with_reducible repeat (first | refine blk_drewN ?_ _ | refine blk_drew ?_ | refine blk_alloc ?_ _)); refine blk_far ?_ NB102_109.out _; (with_reducible repeat (first | refine blk_drewN ?_ _ | refine blk_drew ?_ | refine blk_alloc ?_ _)); refine blk_far ?_ NB102_109.out _; (with_reducible repeat (first | refine blk_drewN ?_ _ | refine blk_drew ?_ | refine blk_alloc ?_ _)); refine blk_far ?_ NB102_109.out _; (with_reducible repeat (first | refine blk_drewN ?_ _ | refine blk_drew ?_ | refine blk_alloc ?_ _)); refine blk_far ?_ NB102_109.out _; (with_reducible repeat (first | refine blk_drewN ?_ _ | refine blk_drew ?_ | refine blk_alloc ?_ _)); exact BK102.out⟩, ⟨by (with_reducible repeat (first | refine blk_drewN ?_ _ | refine blk_drew ?_ | refine blk_alloc ?_ _)); refine blk_put (cs := #[.int .i64 a0_0, .int .u64 0, .string a0_2, .slice Ao13 y106.length co13, .slice none 0 0]) ?_ 4 _ rfl; (with_reducible repeat (first | refine blk_drewN ?_ _ | refine blk_drew ?_ | refine blk_alloc ?_ _)); refine blk_put (cs := #[.int .i64 a0_0, .int .u64 0, .string a0_2, .slice none 0 0, .slice none 0 0]) ?_ 3 _ rfl; (with_reducible repeat (first | refine blk_drewN ?_ _ | refine blk_drew ?_ | refine blk_alloc ?_ _)); refine blk_put (cs := #[.int .i64 a0_0, .int .u64 0, .string (⟨#[]⟩ : ByteArray), .slice none 0 0, .slice none 0 0]) ?_ 2 _ rfl; (with_reducible repeat (first | refine blk_drewN ?_ _ | refine blk_drew ?_ | refine blk_alloc ?_ _)); refine blk_put (cs := #[.int .i64 a0_0, .int .u64 0, .string (⟨#[]⟩ : ByteArray), .slice none 0 0, .slice none 0 0]) ?_ 1 _ rfl; (with_reducible repeat (first | refine blk_drewN ?_ _ | refine blk_drew ?_ | refine blk_alloc ?_ _)); refine blk_put (cs := #[.int .i64 0, .int .u64 0, .string (⟨#[]⟩ : ByteArray), .slice none 0 0, .slice none 0 0]) ?_ 0 _ rfl; (with_reducible repeat (first | refine blk_drewN ?_ _ | refine blk_drew ?_ | refine blk_alloc ?_ _)); exact BK109.out⟩, ⟨by repeat (first | (with_reducible first | exact HB.out | apply below_alloc | apply pw_below_drewN | apply below_drew1 | refine below_set ?_ GE101.out | refine below_set ?_ GE102.out | refine below_set ?_ GE109.out) | exact HB.out)⟩⟩
    case rest =>
      clear HC3
      try clear c1
      try clear c2
      try clear p2
      try clear c7
      try clear c19
      try clear c20
      try clear c22
      try clear c22b0
      try clear c22b1
      try clear c23
      try clear c24
      try clear c26
      try clear hcz21_0
      try clear hcz21_1
      try clear hcz21_2
      try clear hcz21_3
      try clear hcz21_4
      try clear hcz25_0
      try clear hcz25_1
      try clear hcz25_2
      try clear hcz25_3
      try clear hcz25_4
      try clear hcz27_0
      try clear hcz27_1
      try clear hcz27_2
      try clear hcz27_3
      try clear hcz27_4
      try clear hfz21_0
      try clear hfz21_1
      try clear hfz21_2
      try clear hfz21_3
      try clear hfz21_4
      try clear hfz25_0
      try clear hfz25_1
      try clear hfz25_2
      try clear hfz25_3
      try clear hfz25_4
      try clear hfz27_0
      try clear hfz27_1
      try clear hfz27_2
      try clear hfz27_3
      try clear hfz27_4
      obtain ⟨kq, x110001_2, HA, HJ2, HO_110003, BK101, BK102, BK109, HB⟩ := hcut
      cases kq with
      | zero => exact absurd HA.out (by simp [laws_jsIn.j0])
      | succ kj2 =>
        have H := HA.out
        clear HA
        simp only [laws_jsIn.j0] at H
        have HC28 := Aside0.mk H
        clear H
        have hnb29 := NB101_102.out
        have hnc29 := NB102_101.out
        have hnb30 := NB101_109.out
        have hnc30 := NB109_101.out
        have hcz31_0 : wc.cell? ⟨gb101, 0, none⟩ = some (.int .i64 a0_0) := (blk_cell BK101.out 0).trans rfl
        have hcz31_1 : wc.cell? ⟨gb101, 1, none⟩ = some (.int .i64 a0_1) := (blk_cell BK101.out 1).trans rfl
        have hcz31_2 : wc.cell? ⟨gb101, 2, none⟩ = some (.string a0_2) := (blk_cell BK101.out 2).trans rfl
        have hcz31_3 : wc.cell? ⟨gb101, 3, none⟩ = some (.slice A0_3 l0_3.length c0_3) := (blk_cell BK101.out 3).trans rfl
        have hcz31_4 : wc.cell? ⟨gb101, 4, none⟩ = some (.slice A0_4 l0_4.length c0_4) := (blk_cell BK101.out 4).trans rfl
        have hfz31_0 := blk_frozen BK101.out 0
        have hfz31_1 := blk_frozen BK101.out 1
        have hfz31_2 := blk_frozen BK101.out 2
        have hfz31_3 := blk_frozen BK101.out 3
        have hfz31_4 := blk_frozen BK101.out 4
        go_upto_if 23 with (fail)
        go_cut [] (fun wc => ∃ (kq : Nat) (x110001_27 : Int), Aside0 (laws_jsIn.j1 kq a0_0 a0_1 a0_2 l0_3 l0_4 a0_0 x110001_27 a0_2 y106 = some (r1, r2, r3, r4, r5)) ∧ Aside0 (kq ≤ kj2) ∧ Aside0 (Kd.R Kd.string 9 wc w.heap.size (fun _ => True) (.slice Ao13 y106.length co13) y106) ∧ Aside0 (wc.heap[gb101]? = some (.cells #[.int .i64 a0_0, .int .i64 a0_1, .string a0_2, (.slice A0_3 l0_3.length c0_3), (.slice A0_4 l0_4.length c0_4)] 26 (0, 0))) ∧ Aside0 (wc.heap[gb102]? = some (.cells #[.int .i64 0, .int .u64 0, .string (⟨#[]⟩ : ByteArray), (.slice none 0 0), (.slice none 0 0)] 33 (0, 0))) ∧ Aside0 (wc.heap[gb109]? = some (.cells #[.int .i64 a0_0, .int .u64 x110001_27, .string a0_2, (.slice Ao13 y106.length co13), (.slice none 0 0)] 33 (0, 0))) ∧ Aside0 (Below w.heap.size w wc))
        case first =>
          have H := HC28.out
          clear HC28
          by_cases c32 : a0_0 = 2
          · rw [if_pos c32] at H
            have c32b0 : (a0_0 == 2) = true := beq_iff_eq.mpr c32
            have c32b1 : (a0_0 != 2) = false := bne_eq_false_iff_eq.mpr c32
            clear c32
            (first | rw [c32b0] | (simp only [i64_w, i32_w]; rw [c32b0]) | skip)
            replace H := Option.bind_eq_some_iff.mp H
            obtain ⟨t110, A330, H⟩ := H
            replace H : (laws_jsIn.j1 kj2 a0_0 a0_1 a0_2 l0_3 l0_4 a0_0 t110 a0_2 y106) = some (r1, r2, r3, r4, r5) := H
            have A33 := Aside0.mk A330
            clear A330
            have H' := Aside0.mk H
            clear H
            have hnb34 := NB101_102.out
            have hnc34 := NB102_101.out
            have hnb35 := NB101_109.out
            have hnc35 := NB109_101.out
            have hcz36_0 : wc.cell? ⟨gb101, 0, none⟩ = some (.int .i64 a0_0) := (blk_cell BK101.out 0).trans rfl
            have hcz36_1 : wc.cell? ⟨gb101, 1, none⟩ = some (.int .i64 a0_1) := (blk_cell BK101.out 1).trans rfl
            have hcz36_2 : wc.cell? ⟨gb101, 2, none⟩ = some (.string a0_2) := (blk_cell BK101.out 2).trans rfl
            have hcz36_3 : wc.cell? ⟨gb101, 3, none⟩ = some (.slice A0_3 l0_3.length c0_3) := (blk_cell BK101.out 3).trans rfl
            have hcz36_4 : wc.cell? ⟨gb101, 4, none⟩ = some (.slice A0_4 l0_4.length c0_4) := (blk_cell BK101.out 4).trans rfl
            have hfz36_0 := blk_frozen BK101.out 0
            have hfz36_1 := blk_frozen BK101.out 1
            have hfz36_2 := blk_frozen BK101.out 2
            have hfz36_3 := blk_frozen BK101.out 3
            have hfz36_4 := blk_frozen BK101.out 4
            go_wp2_with (first | ((with_reducible refine gate_callee (f := 16) rfl ?_); refine goesL_ (some 26) rfl rfl Try.func16 (by kernel_rfl) rfl #[.int .i64 a0_1] rfl (by (try simp only [List.map_toArray, List.map_cons, List.map_nil]); first | done | rfl | (simp only [List.length_drop, List.length_take]; rfl)) ?_; (with_reducible refine (spec_JSBits.calls kj2 a0_1 t110 _ A33.out).mono ?_); rintro e w' ⟨rfl, ⟨nd, rfl⟩⟩; refine ⟨_, rfl, ?_⟩; (try (rw [drewN_self wc]; generalize hq_ : World.drewN wc _ = wc; have n0_ : Aside0 (Kd.R Kd.string 9 wc w.heap.size (fun _ => True) (.slice Ao13 y106.length co13) y106) := ⟨by rw [← hq_]; exact (by (with_reducible repeat (first | apply Kd.R_alloc | apply Kd.R_drewN | apply Kd.R_drew)); exact HO_110003.out)⟩; have n1_ : Aside0 (wc.heap[gb101]? = some (.cells #[.int .i64 a0_0, .int .i64 a0_1, .string a0_2, .slice A0_3 l0_3.length c0_3, .slice A0_4 l0_4.length c0_4] 26 (0, 0))) := ⟨by rw [← hq_]; exact (by (with_reducible repeat (first | refine blk_drewN ?_ _ | refine blk_drew ?_ | refine blk_alloc ?_ _)); exact BK101.out)⟩; have n2_ : Aside0 (wc.heap[gb102]? = some (.cells #[.int .i64 0, .int .u64 0, .string (⟨#[]⟩ : ByteArray), .slice none 0 0, .slice none 0 0] 33 (0, 0))) := ⟨by rw [← hq_]; exact (by (with_reducible repeat (first | refine blk_drewN ?_ _ | refine blk_drew ?_ | refine blk_alloc ?_ _)); exact BK102.out)⟩; have n3_ : Aside0 (wc.heap[gb109]? = some (.cells #[.int .i64 a0_0, .int .u64 x110001_2, .string a0_2, .slice Ao13 y106.length co13, .slice none 0 0] 33 (0, 0))) := ⟨by rw [← hq_]; exact (by (with_reducible repeat (first | refine blk_drewN ?_ _ | refine blk_drew ?_ | refine blk_alloc ?_ _)); exact BK109.out)⟩; have n4_ : Aside0 (Below w.heap.size w wc) := ⟨by rw [← hq_]; exact (by repeat (first | (with_reducible first | exact HB.out | apply below_alloc | apply pw_below_drewN | apply below_drew1 | refine below_set ?_ GE101.out | refine below_set ?_ GE102.out | refine below_set ?_ GE109.out) | exact HB.out))⟩; clear HO_110003 BK101 BK102 BK109 HB hq_; have HO_110003 := n0_; have BK101 := n1_; have BK102 := n2_; have BK109 := n3_; have HB := n4_; clear n0_ n1_ n2_ n3_ n4_)); have hnb37 := NB109_102.out; have hnc37 := NB102_109.out; have hcz38_0 : wc.cell? ⟨gb109, 0, none⟩ = some (.int .i64 a0_0) := (blk_cell BK109.out 0).trans rfl; have hcz38_1 : wc.cell? ⟨gb109, 1, none⟩ = some (.int .u64 x110001_2) := (blk_cell BK109.out 1).trans rfl; have hcz38_2 : wc.cell? ⟨gb109, 2, none⟩ = some (.string a0_2) := (blk_cell BK109.out 2).trans rfl; have hcz38_3 : wc.cell? ⟨gb109, 3, none⟩ = some (.slice Ao13 y106.length co13) := (blk_cell BK109.out 3).trans rfl; have hcz38_4 : wc.cell? ⟨gb109, 4, none⟩ = some (.slice none 0 0) := (blk_cell BK109.out 4).trans rfl; have hfz38_0 := blk_frozen BK109.out 0; have hfz38_1 := blk_frozen BK109.out 1; have hfz38_2 := blk_frozen BK109.out 2; have hfz38_3 := blk_frozen BK109.out 3; have hfz38_4 := blk_frozen BK109.out 4))
            go_meet
            case rel => exact ⟨_, (t110), H', ⟨by have := HJ2.out; first | omega | exact Nat.le_refl _⟩, ⟨by (with_reducible repeat (first | apply Kd.R_alloc | apply Kd.R_drewN | apply Kd.R_drew)); exact Kd.R_mono (Kd.R_far (p := ⟨gb109, 1, none⟩) (Kd.R_types HO_110003.out BK109.out (by decide)) (fun _ hk => hk.2) (.int .u64 t110)) (fun _ hk => trivial)⟩, ⟨by (with_reducible repeat (first | refine blk_drewN ?_ _ | refine blk_drew ?_ | refine blk_alloc ?_ _)); refine blk_far ?_ NB101_109.out _; (with_reducible repeat (first | refine blk_drewN ?_ _ | refine blk_drew ?_ | refine blk_alloc ?_ _)); exact BK101.out⟩, ⟨by (with_reducible repeat (first | refine blk_drewN ?_ _ | refine blk_drew ?_ | refine blk_alloc ?_ _)); refine blk_far ?_ NB102_109.out _; (with_reducible repeat (first | refine blk_drewN ?_ _ | refine blk_drew ?_ | refine blk_alloc ?_ _)); exact BK102.out⟩, ⟨by (with_reducible repeat (first | refine blk_drewN ?_ _ | refine blk_drew ?_ | refine blk_alloc ?_ _)); refine blk_put (cs := #[.int .i64 a0_0, .int .u64 x110001_2, .string a0_2, .slice Ao13 y106.length co13, .slice none 0 0]) ?_ 1 _ rfl; (with_reducible repeat (first | refine blk_drewN ?_ _ | refine blk_drew ?_ | refine blk_alloc ?_ _)); exact BK109.out⟩, ⟨by repeat (first | (with_reducible first | exact HB.out | apply below_alloc | apply pw_below_drewN | apply below_drew1 | refine below_set ?_ GE101.out | refine below_set ?_ GE102.out | refine below_set ?_ GE109.out) | exact HB.out)⟩⟩
          · rw [if_neg c32] at H
            have c32b0 : (a0_0 == 2) = false := beq_eq_false_iff_ne.mpr c32
            have c32b1 : (a0_0 != 2) = true := bne_iff_ne.mpr c32
            (first | rw [c32b0] | (simp only [i64_w, i32_w]; rw [c32b0]) | skip)
            have H' := Aside0.mk H
            clear H
            go_wp2
            go_meet
            case rel => exact ⟨_, (x110001_2), H', ⟨by have := HJ2.out; first | omega | exact Nat.le_refl _⟩, ⟨by (with_reducible repeat (first | apply Kd.R_alloc | apply Kd.R_drewN | apply Kd.R_drew)); exact HO_110003.out⟩, ⟨by (with_reducible repeat (first | refine blk_drewN ?_ _ | refine blk_drew ?_ | refine blk_alloc ?_ _)); exact BK101.out⟩, ⟨by (with_reducible repeat (first | refine blk_drewN ?_ _ | refine blk_drew ?_ | refine blk_alloc ?_ _)); exact BK102.out⟩, ⟨by (with_reducible repeat (first | refine blk_drewN ?_ _ | refine blk_drew ?_ | refine blk_alloc ?_ _)); exact BK109.out⟩, ⟨by repeat (first | (with_reducible first | exact HB.out | apply below_alloc | apply pw_below_drewN | apply below_drew1 | refine below_set ?_ GE101.out | refine below_set ?_ GE102.out | refine below_set ?_ GE109.out) | exact HB.out)⟩⟩
        case rest =>
          clear HC28
          try clear c1
          try clear c2
          try clear p2
          try clear c3
          try clear c7
          try clear c16
          try clear c19
          try clear c20
          try clear c22
          try clear c22b0
          try clear c22b1
          try clear c23
          try clear c24
          try clear c26
          try clear c29
          try clear c30
          try clear c32
          try clear c32b0
          try clear c32b1
          try clear c34
          try clear c35
          try clear c37
          try clear hcz21_0
          try clear hcz21_1
          try clear hcz21_2
          try clear hcz21_3
          try clear hcz21_4
          try clear hcz25_0
          try clear hcz25_1
          try clear hcz25_2
          try clear hcz25_3
          try clear hcz25_4
          try clear hcz27_0
          try clear hcz27_1
          try clear hcz27_2
          try clear hcz27_3
          try clear hcz27_4
          try clear hcz31_0
          try clear hcz31_1
          try clear hcz31_2
          try clear hcz31_3
          try clear hcz31_4
          try clear hcz36_0
          try clear hcz36_1
          try clear hcz36_2
          try clear hcz36_3
          try clear hcz36_4
          try clear hcz38_0
          try clear hcz38_1
          try clear hcz38_2
          try clear hcz38_3
          try clear hcz38_4
          try clear hfz21_0
          try clear hfz21_1
          try clear hfz21_2
          try clear hfz21_3
          try clear hfz21_4
          try clear hfz25_0
          try clear hfz25_1
          try clear hfz25_2
          try clear hfz25_3
          try clear hfz25_4
          try clear hfz27_0
          try clear hfz27_1
          try clear hfz27_2
          try clear hfz27_3
          try clear hfz27_4
          try clear hfz31_0
          try clear hfz31_1
          try clear hfz31_2
          try clear hfz31_3
          try clear hfz31_4
          try clear hfz36_0
          try clear hfz36_1
          try clear hfz36_2
          try clear hfz36_3
          try clear hfz36_4
          try clear hfz38_0
          try clear hfz38_1
          try clear hfz38_2
          try clear hfz38_3
          try clear hfz38_4
          try clear p2
          obtain ⟨kq, x110001_27, HA, HJ27, HO_110003, BK101, BK102, BK109, HB⟩ := hcut
          cases kq with
          | zero => exact absurd HA.out (by simp [laws_jsIn.j1])
          | succ kj27 =>
            have H := HA.out
            clear HA
            simp only [laws_jsIn.j1] at H
            have H' := Aside0.mk H
            clear H
            go_wp2
            go_loopg [4] kj27 (fun kq v4 w' => ∃ (x4_3 : Int) (x110004_3 : List (S33)) (u110004 : Value), v4 = .int .i64 x4_3 ∧ Aside0 (laws_jsIn.l0 kq x4_3 a0_0 a0_1 a0_2 l0_3 l0_4 a0_0 x110001_27 a0_2 y106 x110004_3 = some (r1, r2, r3, r4, r5)) ∧ Aside0 (kq ≤ kj27) ∧ Aside0 (Kd.R Kd.string 9 w' w.heap.size (fun _ => True) (.slice Ao13 y106.length co13) y106) ∧ Aside0 (Kd.R k33 33 w' w.heap.size (fun k_ => some k_ ≠ ((.slice Ao13 y106.length co13) : Value).ownBlock ∧ k_ ≠ gb102 ∧ k_ ≠ gb109) u110004 x110004_3) ∧ Aside0 (w'.heap[gb101]? = some (.cells #[.int .i64 a0_0, .int .i64 a0_1, .string a0_2, (.slice A0_3 l0_3.length c0_3), (.slice A0_4 l0_4.length c0_4)] 26 (0, 0))) ∧ Aside0 (w'.heap[gb102]? = some (.cells #[.int .i64 0, .int .u64 0, .string (⟨#[]⟩ : ByteArray), (.slice none 0 0), (.slice none 0 0)] 33 (0, 0))) ∧ Aside0 (w'.heap[gb109]? = some (.cells #[.int .i64 a0_0, .int .u64 x110001_27, .string a0_2, (.slice Ao13 y106.length co13), u110004] 33 (0, 0))) ∧ Aside0 (Below w.heap.size w w'))
            case atStart => exact ⟨(0), (([] : List (S33))), (.slice none 0 0), (by first | rfl | (simp; done) | (simp [*]; done)), H', ⟨Nat.le_refl _⟩, ⟨by (with_reducible repeat (first | apply Kd.R_alloc | apply Kd.R_drewN | apply Kd.R_drew)); exact HO_110003.out⟩, ⟨by first | exact Kd.R_nil _ _ _ _ _ | exact Kd.N_nil _ _ _ _ _ | exact Kd.V_nil _ _ _ _ _ | exact Kd.Q_nil _ _ _ _ _ | exact Kd.S_nil _ _ _ _ _⟩, ⟨by (with_reducible repeat (first | refine blk_drewN ?_ _ | refine blk_drew ?_ | refine blk_alloc ?_ _)); exact BK101.out⟩, ⟨by (with_reducible repeat (first | refine blk_drewN ?_ _ | refine blk_drew ?_ | refine blk_alloc ?_ _)); exact BK102.out⟩, ⟨by (with_reducible repeat (first | refine blk_drewN ?_ _ | refine blk_drew ?_ | refine blk_alloc ?_ _)); exact BK109.out⟩, ⟨by repeat (first | (with_reducible first | exact HB.out | apply below_alloc | apply pw_below_drewN | apply below_drew1 | refine below_set ?_ GE101.out | refine below_set ?_ GE102.out | refine below_set ?_ GE109.out) | exact HB.out)⟩⟩
            case round =>
              clear H'
              try clear c1
              try clear c2
              try clear p2
              try clear c3
              try clear c7
              try clear c16
              try clear c19
              try clear c20
              try clear c22
              try clear c22b0
              try clear c22b1
              try clear c23
              try clear c24
              try clear c26
              try clear c29
              try clear c30
              try clear c32
              try clear c32b0
              try clear c32b1
              try clear c34
              try clear c35
              try clear c37
              try clear hcz21_0
              try clear hcz21_1
              try clear hcz21_2
              try clear hcz21_3
              try clear hcz21_4
              try clear hcz25_0
              try clear hcz25_1
              try clear hcz25_2
              try clear hcz25_3
              try clear hcz25_4
              try clear hcz27_0
              try clear hcz27_1
              try clear hcz27_2
              try clear hcz27_3
              try clear hcz27_4
              try clear hcz31_0
              try clear hcz31_1
              try clear hcz31_2
              try clear hcz31_3
              try clear hcz31_4
              try clear hcz36_0
              try clear hcz36_1
              try clear hcz36_2
              try clear hcz36_3
              try clear hcz36_4
              try clear hcz38_0
              try clear hcz38_1
              try clear hcz38_2
              try clear hcz38_3
              try clear hcz38_4
              try clear hfz21_0
              try clear hfz21_1
              try clear hfz21_2
              try clear hfz21_3
              try clear hfz21_4
              try clear hfz25_0
              try clear hfz25_1
              try clear hfz25_2
              try clear hfz25_3
              try clear hfz25_4
              try clear hfz27_0
              try clear hfz27_1
              try clear hfz27_2
              try clear hfz27_3
              try clear hfz27_4
              try clear hfz31_0
              try clear hfz31_1
              try clear hfz31_2
              try clear hfz31_3
              try clear hfz31_4
              try clear hfz36_0
              try clear hfz36_1
              try clear hfz36_2
              try clear hfz36_3
              try clear hfz36_4
              try clear hfz38_0
              try clear hfz38_1
              try clear hfz38_2
              try clear hfz38_3
              try clear hfz38_4
              try clear p2
              obtain ⟨x4_3, x110004_3, u110004, rfl, HA, HK3, HO_110003, HO_110004, BK101, BK102, BK109, HB⟩ := hrel
              cases gk with
              | zero => exact absurd HA.out (by simp [laws_jsIn.l0])
              | succ k3 =>
                have H := HA.out
                clear HA
                simp only [laws_jsIn.l0] at H
                by_cases c39 : x4_3 < (l0_4.length : Int)
                · rw [if_pos c39] at H
                  have c39b0 : decide (x4_3 < (l0_4.length : Int)) = true := decide_eq_true c39
                  clear c39
                  by_cases c40 : 0 ≤ x4_3
                  · rw [if_pos c40] at H
                    have c40b0 : decide (0 ≤ x4_3) = true := decide_eq_true c40
                    clear c40
                    replace H := Option.bind_eq_some_iff.mp H
                    obtain ⟨⟨t112, t113, t114, t115, t118⟩, A410, H⟩ := H
                    replace H : (if x110004_3.length < 1759218604441 then (laws_jsIn.l0 k3 (wrap64 (x4_3 + 1)) a0_0 a0_1 a0_2 l0_3 l0_4 a0_0 x110001_27 a0_2 y106 (x110004_3 ++ [(⟨t112, t113, t114, t115, t118⟩ : S33)])) else (none)) = some (r1, r2, r3, r4, r5) := H
                    have A41 := Aside0.mk A410
                    clear A410
                    by_cases c42 : x110004_3.length < 1759218604441
                    · rw [if_pos c42] at H
                      have LMc42 := Aside0.mk c42
                      clear c42
                      obtain ⟨y121, hy121⟩ : ∃ y_ : List (S33), y_ = (x110004_3 ++ [(⟨t112, t113, t114, t115, t118⟩ : S33)]) := ⟨_, rfl⟩
                      replace H : (laws_jsIn.l0 k3 (wrap64 (x4_3 + 1)) a0_0 a0_1 a0_2 l0_3 l0_4 a0_0 x110001_27 a0_2 y106 y121) = some (r1, r2, r3, r4, r5) := by first | (rw [hy121]; with_reducible exact H) | (have H2_ := (Option.bind_some _ _).symm.trans H; rw [hy121]; with_reducible exact H2_) | (have H2_ := (Option.bind_some _ _).symm.trans H; with_reducible exact H2_) | with_reducible exact H | (rw [hy121]; exact H) | exact H
                      have Ny121 := Aside0.mk hy121
                      clear hy121
                      have H' := Aside0.mk H
                      clear H
                      have hnb43 := NB101_102.out
                      have hnc43 := NB102_101.out
                      have hnb44 := NB101_109.out
                      have hnc44 := NB109_101.out
                      have hcz45_0 : wr.cell? ⟨gb101, 0, none⟩ = some (.int .i64 a0_0) := (blk_cell BK101.out 0).trans rfl
                      have hcz45_1 : wr.cell? ⟨gb101, 1, none⟩ = some (.int .i64 a0_1) := (blk_cell BK101.out 1).trans rfl
                      have hcz45_2 : wr.cell? ⟨gb101, 2, none⟩ = some (.string a0_2) := (blk_cell BK101.out 2).trans rfl
                      have hcz45_3 : wr.cell? ⟨gb101, 3, none⟩ = some (.slice A0_3 l0_3.length c0_3) := (blk_cell BK101.out 3).trans rfl
                      have hcz45_4 : wr.cell? ⟨gb101, 4, none⟩ = some (.slice A0_4 l0_4.length c0_4) := (blk_cell BK101.out 4).trans rfl
                      have hfz45_0 := blk_frozen BK101.out 0
                      have hfz45_1 := blk_frozen BK101.out 1
                      have hfz45_2 := blk_frozen BK101.out 2
                      have hfz45_3 := blk_frozen BK101.out 3
                      have hfz45_4 := blk_frozen BK101.out 4
                      try go_wp2
                      have n0_ := Aside0.mk (Kd.R_drew HO_110003.out)
                      have n1_ := Aside0.mk (Kd.R_drew HO_110004.out)
                      have n2_ := Aside0.mk (blk_drew BK101.out)
                      have n3_ := Aside0.mk (blk_drew BK102.out)
                      have n4_ := Aside0.mk (blk_drew BK109.out)
                      have n5_ := Aside0.mk (below_drew1 HB.out)
                      clear HO_110003
                      clear HO_110004
                      clear BK101
                      clear BK102
                      clear BK109
                      clear HB
                      have HO_110003 := n0_
                      have HO_110004 := n1_
                      have BK101 := n2_
                      have BK102 := n3_
                      have BK109 := n4_
                      have HB := n5_
                      clear n0_ n1_ n2_ n3_ n4_ n5_
                      have p111 : 0 ≤ (x4_3 : Int) := of_decide_eq_true (by first | (with_reducible assumption) | assumption)
                      have q111 : x4_3 < (l0_4.length : Int) := of_decide_eq_true (by first | (with_reducible assumption) | assumption)
                      obtain ⟨ad111, A111_3, c111_3, A111_4, c111_4, e111, hx111_0, hx111_1, hx111_2, hx111_3, hx111_4, hl111_3, hi111_3, hl111_4, hi111_4⟩ := at_T26 HR0_4.out x4_3 p111 q111
                      have hw111_4 := hx111_4
                      have hw111_3 := hx111_3
                      have hw111_2 := hx111_2
                      have hw111_1 := hx111_1
                      have hw111_0 := hx111_0
                      cases e111
                      replace hx111_0 := (HB.out.cell (World.block_lt_of_cell? w _ hx111_0)).trans hx111_0
                      replace hx111_1 := (HB.out.cell (World.block_lt_of_cell? w _ hx111_1)).trans hx111_1
                      replace hx111_2 := (HB.out.cell (World.block_lt_of_cell? w _ hx111_2)).trans hx111_2
                      replace hx111_3 := (HB.out.cell (World.block_lt_of_cell? w _ hx111_3)).trans hx111_3
                      replace hx111_4 := (HB.out.cell (World.block_lt_of_cell? w _ hx111_4)).trans hx111_4
                      have HR111_3 := Aside0.mk hi111_3
                      have HC111_3 := Aside0.mk hl111_3
                      clear hi111_3 hl111_3
                      have HR111_4 := Aside0.mk hi111_4
                      have HC111_4 := Aside0.mk hl111_4
                      clear hi111_4 hl111_4
                      replace p111 := eq_true p111
                      replace q111 := eq_true q111
                      refine start_ (n := 12) (S := fun w' => w'.cell? ⟨gb109, 0, none⟩ = some (.int .i64 a0_0) ∧ w'.cell? ⟨gb109, 1, none⟩ = some (.int .u64 x110001_27) ∧ w'.cell? ⟨gb109, 2, none⟩ = some (.string a0_2) ∧ w'.cell? ⟨gb109, 3, none⟩ = some (.slice Ao13 y106.length co13) ∧ w'.cell? ⟨gb109, 4, none⟩ = some (u110004) ∧ w'.cell? ⟨gb101, 0, none⟩ = some (.int .i64 a0_0) ∧ w'.cell? ⟨gb101, 1, none⟩ = some (.int .i64 a0_1) ∧ w'.cell? ⟨gb101, 2, none⟩ = some (.string a0_2) ∧ w'.cell? ⟨gb101, 3, none⟩ = some (.slice A0_3 l0_3.length c0_3) ∧ w'.cell? ⟨gb101, 4, none⟩ = some (.slice (some ad111) l0_4.length c0_4) ∧ w'.cell? (ad111.add ((x4_3).toNat * 5)) = some (.int .i64 ((rd_T26 l0_4 x4_3).f0)) ∧ w'.cell? ⟨(ad111.add ((x4_3).toNat * 5)).block, (ad111.add ((x4_3).toNat * 5)).off + 1, none⟩ = some (.int .i64 ((rd_T26 l0_4 x4_3).f1)) ∧ w'.cell? ⟨(ad111.add ((x4_3).toNat * 5)).block, (ad111.add ((x4_3).toNat * 5)).off + 2, none⟩ = some (.string ((rd_T26 l0_4 x4_3).f2)) ∧ w'.cell? ⟨(ad111.add ((x4_3).toNat * 5)).block, (ad111.add ((x4_3).toNat * 5)).off + 3, none⟩ = some (.slice A111_3 ((rd_T26 l0_4 x4_3).f3).length c111_3) ∧ w'.cell? ⟨(ad111.add ((x4_3).toNat * 5)).block, (ad111.add ((x4_3).toNat * 5)).off + 4, none⟩ = some (.slice A111_4 ((rd_T26 l0_4 x4_3).f4).length c111_4)) (ds := [11]) #[false, false, false, false, false, false, false, false, false, false, false, false] (by kernel_rfl) rfl rfl ⟨(blk_cell BK109.out 0).trans rfl, (blk_cell BK109.out 1).trans rfl, (blk_cell BK109.out 2).trans rfl, (blk_cell BK109.out 3).trans rfl, (blk_cell BK109.out 4).trans rfl, (blk_cell BK101.out 0).trans rfl, (blk_cell BK101.out 1).trans rfl, (blk_cell BK101.out 2).trans rfl, (blk_cell BK101.out 3).trans rfl, (blk_cell BK101.out 4).trans rfl, ((HB.out.cell (World.block_lt_of_cell? w _ hw111_0)).trans hw111_0), ((HB.out.cell (World.block_lt_of_cell? w _ hw111_1)).trans hw111_1), ((HB.out.cell (World.block_lt_of_cell? w _ hw111_2)).trans hw111_2), ((HB.out.cell (World.block_lt_of_cell? w _ hw111_3)).trans hw111_3), ((HB.out.cell (World.block_lt_of_cell? w _ hw111_4)).trans hw111_4)⟩ (fun hHeld => ?_); refine with_tabW laws_jsIn.tab9 laws_jsIn.bits9 (fun HT_ HW_ => ?_)
                      generalize wr.drew = w46 at HO_110003 HO_110004 BK101 BK102 BK109 HB HR111_3 HR111_4 hx111_0 hx111_1 hx111_2 hx111_3 hx111_4 hHeld ⊢
                      refine pure_ (i := 0) (N := some 35) (v := ?_) (a' := ?_) #[true, false, false, false, false, false, false, false, false, false, false, false] rfl rfl (any_of HT_.out (by kernel_rfl)) (fun _ _ _ h => h) (Or.inl ⟨by rfl, ?_⟩) ?_ ?_
                      rotate_left
                      · intro w'
                        go_simp
                        with_reducible rfl
                      rotate_left
                      · simp only [Act.put, List.setIfInBounds_toArray, List.set_cons_zero, List.set_cons_succ, i64_w, i32_w]
                        rfl
                      refine pure_ (i := 2) (N := some 37) (v := ?_) (a' := ?_) #[true, false, true, false, false, false, false, false, false, false, false, false] rfl rfl (any_of HT_.out (by kernel_rfl)) (fun _ _ _ h => h) (Or.inl ⟨by rfl, ?_⟩) ?_ ?_
                      rotate_left
                      · intro w'
                        go_simp
                        with_reducible rfl
                      rotate_left
                      · simp only [Act.put, List.setIfInBounds_toArray, List.set_cons_zero, List.set_cons_succ, i64_w, i32_w]
                        rfl
                      refine pure_ (i := 4) (N := some 39) (v := ?_) (a' := ?_) #[true, false, true, false, true, false, false, false, false, false, false, false] rfl rfl (any_of HT_.out (by kernel_rfl)) (fun _ _ _ h => h) (Or.inl ⟨by rfl, ?_⟩) ?_ ?_
                      rotate_left
                      · intro w'
                        go_simp
                        with_reducible rfl
                      rotate_left
                      · simp only [Act.put, List.setIfInBounds_toArray, List.set_cons_zero, List.set_cons_succ, i64_w, i32_w]
                        rfl
                      refine take_ (i := 1) (N := some 36) (v := ?_) (a' := ?_) #[true, true, true, false, true, false, false, false, false, false, false, false] rfl rfl (take_ofW HT_.out HW_.out (by kernel_rfl)) (fun _ _ _ h => h) (Or.inl ⟨by rfl, ?_⟩) hHeld ?_ ?_
                      rotate_left
                      · rintro w' ⟨s0, s1, s2, s3, s4, s5, s6, s7, s8, s9, s10, s11, s12, s13, s14⟩
                        go_simp
                        with_reducible rfl
                      rotate_left
                      · simp only [Act.put, List.setIfInBounds_toArray, List.set_cons_zero, List.set_cons_succ, i64_w, i32_w]
                        rfl
                      refine take_ (i := 3) (N := some 38) (v := ?_) (a' := ?_) #[true, true, true, true, true, false, false, false, false, false, false, false] rfl rfl (take_ofW HT_.out HW_.out (by kernel_rfl)) (fun _ _ _ h => h) (Or.inl ⟨by rfl, ?_⟩) hHeld ?_ ?_
                      rotate_left
                      · rintro w' ⟨s0, s1, s2, s3, s4, s5, s6, s7, s8, s9, s10, s11, s12, s13, s14⟩
                        go_simp
                        with_reducible rfl
                      rotate_left
                      · simp only [Act.put, List.setIfInBounds_toArray, List.set_cons_zero, List.set_cons_succ, i64_w, i32_w]
                        rfl
                      refine pure_ (i := 5) (N := some 40) (v := ?_) (a' := ?_) #[true, true, true, true, true, true, false, false, false, false, false, false] rfl rfl (any_of HT_.out (by kernel_rfl)) (fun _ _ _ h => h) (Or.inl ⟨by rfl, ?_⟩) ?_ ?_
                      rotate_left
                      · intro w'
                        go_simp
                        with_reducible rfl
                      rotate_left
                      · simp only [Act.put, List.setIfInBounds_toArray, List.set_cons_zero, List.set_cons_succ, i64_w, i32_w]
                        rfl
                      refine take_ (i := 6) (N := some 41) (v := ?_) (a' := ?_) #[true, true, true, true, true, true, true, false, false, false, false, false] rfl rfl (take_ofW HT_.out HW_.out (by kernel_rfl)) (fun _ _ _ h => h) (Or.inl ⟨by rfl, ?_⟩) hHeld ?_ ?_
                      rotate_left
                      · rintro w' ⟨s0, s1, s2, s3, s4, s5, s6, s7, s8, s9, s10, s11, s12, s13, s14⟩
                        go_simp
                        with_reducible rfl
                      rotate_left
                      · simp only [Act.put, List.setIfInBounds_toArray, List.set_cons_zero, List.set_cons_succ, i64_w, i32_w]
                        rfl
                      refine one_ (i := 7) (N := some 42) #[true, true, true, true, true, true, true, true, false, false, false, false] rfl rfl (one_of HT_.out (by kernel_rfl)) (by decide) (fun K hK => ?_)
                      refine goes_ Try.func7 (by kernel_rfl) rfl #[.agg #[.int .i64 ((rd_T26 l0_4 x4_3).f0), .int .i64 ((rd_T26 l0_4 x4_3).f1), .string ((rd_T26 l0_4 x4_3).f2), .slice A111_3 ((rd_T26 l0_4 x4_3).f3).length c111_3, .slice A111_4 ((rd_T26 l0_4 x4_3).f4).length c111_4]] (by rfl) rfl rfl (by (try simp only [List.map_toArray, List.map_cons, List.map_nil]); first | done | rfl | (simp only [List.length_drop, List.length_take]; rfl)) ?_
                      with_reducible refine (ih k3 (by have := HJ2.out; have := HJ27.out; have := HK3.out; omega) ((rd_T26 l0_4 x4_3).f0) ((rd_T26 l0_4 x4_3).f1) ((rd_T26 l0_4 x4_3).f2) _ _ ((rd_T26 l0_4 x4_3).f3) _ _ ((rd_T26 l0_4 x4_3).f4) t112 t113 t114 t115 t118 _ ?side1 ?side2 ?side3 ?side4 A41.out).mono ?_
                      (case side1 => repeat (first | exact (Kd.C_below HR111_3.out HB.out) | (with_reducible refine Kd.C_alloc ?_ _) | (with_reducible refine Kd.C_drewN ?_ _) | (with_reducible refine Kd.C_drew ?_)))
                      (case side2 => exact HC111_3.out)
                      (case side3 => repeat (first | exact (Kd.C_below HR111_4.out HB.out) | (with_reducible refine Kd.C_alloc ?_ _) | (with_reducible refine Kd.C_drewN ?_ _) | (with_reducible refine Kd.C_drew ?_)))
                      (case side4 => exact HC111_4.out)
                      rintro e w47 ⟨v116, v119, rfl, ho0, ho1, hb⟩
                      refine ⟨_, rfl, ?_⟩
                      have n0_ := Aside0.mk (Kd.R_elder' (by (with_reducible repeat (first | apply Kd.R_alloc | apply Kd.R_drewN | apply Kd.R_drew)); exact HO_110003.out) (Kd.R_base ho0) hb)
                      have n1_ := Aside0.mk (Kd.R_mono (Kd.R_told (Kd.R_told (Kd.R_old (by (with_reducible repeat (first | apply Kd.R_alloc | apply Kd.R_drewN | apply Kd.R_drew)); exact HO_110004.out) hb) (Kd.R_base ho0)) (Kd.R_base ho1)) (fun _ h_ => h_.1))
                      have n2_ := Aside0.mk (Kd.R_lower (Kd.R_new' ho0 (Kd.R_lt (by (with_reducible repeat (first | apply Kd.R_alloc | apply Kd.R_drewN | apply Kd.R_drew)); exact HO_110003.out))) (below_size (by repeat (first | (with_reducible first | exact HB.out | apply below_alloc | apply pw_below_drewN | apply below_drew1 | refine below_set ?_ GE101.out | refine below_set ?_ GE102.out | refine below_set ?_ GE109.out) | exact HB.out))))
                      have n3_ := Aside0.mk (Kd.R_lower (Kd.R_newB (Kd.R_newB (Kd.R_new' (Kd.R_new' ho1 (Kd.R_lt (by (with_reducible repeat (first | apply Kd.R_alloc | apply Kd.R_drewN | apply Kd.R_drew)); exact HO_110003.out))) (Kd.R_lt (by (with_reducible repeat (first | apply Kd.R_alloc | apply Kd.R_drewN | apply Kd.R_drew)); exact HO_110004.out))) (g := gb102) (o := .cells #[.int .i64 0, .int .u64 0, .string (⟨#[]⟩ : ByteArray), .slice none 0 0, .slice none 0 0] 33 (0, 0)) (by (with_reducible repeat (first | refine blk_drewN ?_ _ | refine blk_drew ?_ | refine blk_alloc ?_ _)); exact BK102.out)) (g := gb109) (o := .cells #[.int .i64 a0_0, .int .u64 x110001_27, .string a0_2, .slice Ao13 y106.length co13, u110004] 33 (0, 0)) (by (with_reducible repeat (first | refine blk_drewN ?_ _ | refine blk_drew ?_ | refine blk_alloc ?_ _)); exact BK109.out)) (below_size (by repeat (first | (with_reducible first | exact HB.out | apply below_alloc | apply pw_below_drewN | apply below_drew1 | refine below_set ?_ GE101.out | refine below_set ?_ GE102.out | refine below_set ?_ GE109.out) | exact HB.out))))
                      have n4_ := Aside0.mk (blk_below (g := gb101) (o := .cells #[.int .i64 a0_0, .int .i64 a0_1, .string a0_2, .slice A0_3 l0_3.length c0_3, .slice (some ad111) l0_4.length c0_4] 26 (0, 0)) (by (with_reducible repeat (first | refine blk_drewN ?_ _ | refine blk_drew ?_ | refine blk_alloc ?_ _)); exact BK101.out) hb)
                      have n5_ := Aside0.mk (blk_below (g := gb102) (o := .cells #[.int .i64 0, .int .u64 0, .string (⟨#[]⟩ : ByteArray), .slice none 0 0, .slice none 0 0] 33 (0, 0)) (by (with_reducible repeat (first | refine blk_drewN ?_ _ | refine blk_drew ?_ | refine blk_alloc ?_ _)); exact BK102.out) hb)
                      have n6_ := Aside0.mk (blk_below (g := gb109) (o := .cells #[.int .i64 a0_0, .int .u64 x110001_27, .string a0_2, .slice Ao13 y106.length co13, u110004] 33 (0, 0)) (by (with_reducible repeat (first | refine blk_drewN ?_ _ | refine blk_drew ?_ | refine blk_alloc ?_ _)); exact BK109.out) hb)
                      have n7_ := Aside0.mk (below_step (by repeat (first | (with_reducible first | exact HB.out | apply below_alloc | apply pw_below_drewN | apply below_drew1 | refine below_set ?_ GE101.out | refine below_set ?_ GE102.out | refine below_set ?_ GE109.out) | exact HB.out)) hb)
                      clear HO_110003
                      clear HO_110004
                      clear BK101
                      clear BK102
                      clear BK109
                      clear HB
                      have HO_110003 := n0_
                      have HO_110004 := n1_
                      have HO117 := n2_
                      have HO120 := n3_
                      have BK101 := n4_
                      have BK102 := n5_
                      have BK109 := n6_
                      have HB := n7_
                      clear n0_ n1_ n2_ n3_ n4_ n5_ n6_ n7_
                      (try clear hb)
                      (try clear hb2)
                      (try clear hk)
                      (try clear hi)
                      (try clear ho0)
                      (try clear ho1)
                      obtain ⟨Ao49, co49, eo49⟩ := Kd.R_slice HO117.out
                      (first | subst eo49 | (injection eo49 with f1_ f2_ f3_; have f4_ := f1_.symm; have f5_ := f3_.symm; clear f1_ f2_ f3_; subst f4_; subst f5_))
                      obtain ⟨Ao50, co50, eo50⟩ := Kd.R_slice HO120.out
                      (first | subst eo50 | (injection eo50 with f1_ f2_ f3_; have f4_ := f1_.symm; have f5_ := f3_.symm; clear f1_ f2_ f3_; subst f4_; subst f5_))
                      refine hK.out _ _ ⟨(blk_cell BK109.out 0).trans rfl, (blk_cell BK109.out 1).trans rfl, (blk_cell BK109.out 2).trans rfl, (blk_cell BK109.out 3).trans rfl, (blk_cell BK109.out 4).trans rfl, (blk_cell BK101.out 0).trans rfl, (blk_cell BK101.out 1).trans rfl, (blk_cell BK101.out 2).trans rfl, (blk_cell BK101.out 3).trans rfl, (blk_cell BK101.out 4).trans rfl, ((HB.out.cell (World.block_lt_of_cell? w _ hw111_0)).trans hw111_0), ((HB.out.cell (World.block_lt_of_cell? w _ hw111_1)).trans hw111_1), ((HB.out.cell (World.block_lt_of_cell? w _ hw111_2)).trans hw111_2), ((HB.out.cell (World.block_lt_of_cell? w _ hw111_3)).trans hw111_3), ((HB.out.cell (World.block_lt_of_cell? w _ hw111_4)).trans hw111_4)⟩ (fun hHeld => ?_)
                      clear hK K
                      refine norm_ (a' := ?_) ?_ ?_
                      rotate_left
                      · show Act.put _ (some 42) _ = _
                        simp only [Act.put, List.setIfInBounds_toArray, List.set_cons_zero, List.set_cons_succ, i64_w, i32_w]
                        rfl
                      refine one_ (i := 8) (N := some 43) #[true, true, true, true, true, true, true, true, true, false, false, false] rfl rfl (one_of HT_.out (by kernel_rfl)) (by decide) (fun K hK => ?_)
                      refine value_ (w1 := ?_) (v := ?_) (by rfl) rfl ?_ ?_
                      rotate_left 2
                      · go_simp
                        constructor
                        · rfl
                        · rfl
                      refine hK.out _ _ ⟨(blk_cell (blk_alloc BK109.out _) 0).trans rfl, (blk_cell (blk_alloc BK109.out _) 1).trans rfl, (blk_cell (blk_alloc BK109.out _) 2).trans rfl, (blk_cell (blk_alloc BK109.out _) 3).trans rfl, (blk_cell (blk_alloc BK109.out _) 4).trans rfl, (blk_cell (blk_alloc BK101.out _) 0).trans rfl, (blk_cell (blk_alloc BK101.out _) 1).trans rfl, (blk_cell (blk_alloc BK101.out _) 2).trans rfl, (blk_cell (blk_alloc BK101.out _) 3).trans rfl, (blk_cell (blk_alloc BK101.out _) 4).trans rfl, (World.cell?_alloc_lt _ _ _ (World.block_lt_of_cell? _ _ (((HB.out.cell (World.block_lt_of_cell? w _ hw111_0)).trans hw111_0)))).trans (((HB.out.cell (World.block_lt_of_cell? w _ hw111_0)).trans hw111_0)), (World.cell?_alloc_lt _ _ _ (World.block_lt_of_cell? _ _ (((HB.out.cell (World.block_lt_of_cell? w _ hw111_1)).trans hw111_1)))).trans (((HB.out.cell (World.block_lt_of_cell? w _ hw111_1)).trans hw111_1)), (World.cell?_alloc_lt _ _ _ (World.block_lt_of_cell? _ _ (((HB.out.cell (World.block_lt_of_cell? w _ hw111_2)).trans hw111_2)))).trans (((HB.out.cell (World.block_lt_of_cell? w _ hw111_2)).trans hw111_2)), (World.cell?_alloc_lt _ _ _ (World.block_lt_of_cell? _ _ (((HB.out.cell (World.block_lt_of_cell? w _ hw111_3)).trans hw111_3)))).trans (((HB.out.cell (World.block_lt_of_cell? w _ hw111_3)).trans hw111_3)), (World.cell?_alloc_lt _ _ _ (World.block_lt_of_cell? _ _ (((HB.out.cell (World.block_lt_of_cell? w _ hw111_4)).trans hw111_4)))).trans (((HB.out.cell (World.block_lt_of_cell? w _ hw111_4)).trans hw111_4))⟩ (fun hHeld => ?_)
                      clear hK K
                      refine norm_ (a' := ?_) ?_ ?_
                      rotate_left
                      · show Act.put _ (some 43) _ = _
                        simp only [Act.put, List.setIfInBounds_toArray, List.set_cons_zero, List.set_cons_succ, i64_w, i32_w]
                        rfl
                      refine one_ (i := 9) (N := some 44) #[true, true, true, true, true, true, true, true, true, true, false, false] rfl rfl (one_of HT_.out (by kernel_rfl)) (by decide) (fun K hK => ?_)
                      refine Kd.R_append_step k33 (w0 := w) w.heap.size (by rfl) (.tmp 36) (.tmp 43) 31 33 (.agg #[(.int .i64 0), (.int .u64 0), (.string ⟨#[]⟩), (.slice none 0 0), (.slice none 0 0)]) 80 rfl Try.underlying31 info33 rfl (by decide) (by omega) u110004 x110004_3 (⟨t112, t113, t114, t115, t118⟩ : S33) [.int .i64 t112, .int .u64 t113, .string t114, .slice Ao49 t115.length co49, .slice Ao50 t118.length co50] (fun k_ => some k_ ≠ (.slice Ao13 y106.length co13 : Value).ownBlock ∧ k_ ≠ gb102 ∧ k_ ≠ gb109) (fun k_ => ((fun k_ => some k_ ≠ (.slice Ao13 y106.length co13 : Value).ownBlock ∧ k_ ≠ gb102 ∧ k_ ≠ gb109)) k_ ∧ some k_ ≠ (u110004 : Value).ownBlock) rfl rfl ?aP (fun _ hk => hk) ?aF ?aO ?aB ?aS ?aL ?_
                      (case aP => exact k33_mkM _ _ _ (⟨t112, t113, t114, t115, t118⟩ : S33) (Kd.R_mono (Kd.R_types (Kd.R_types (Kd.R_apart' (HO117.out) (Kd.R_typed HO_110004.out) (by decide)) BK102.out (by decide)) BK109.out (by decide)) (fun k_ hk => ⟨⟨hk.1.1.1.2, ⟨hk.1.2, hk.2⟩⟩, hk.1.1.2⟩)) (Kd.R_mono (HO120.out) (fun k_ hk => ⟨⟨hk.1.1.1.2, ⟨hk.1.2, hk.2⟩⟩, hk.1.1.2⟩)))
                      (case aB => exact (by repeat (first | (with_reducible first | exact HB.out | apply below_alloc | apply pw_below_drewN | apply below_drew1 | refine below_set ?_ GE101.out | refine below_set ?_ GE102.out | refine below_set ?_ GE109.out) | exact HB.out)))
                      (case aF => exact (fun k_ hk => ⟨Kd.fresh' (Kd.R_lt (by (with_reducible repeat (first | apply Kd.R_alloc | apply Kd.R_drewN | apply Kd.R_drew)); exact HO_110003.out)) k_ hk, Kd.freshB (g := gb102) (o := .cells #[.int .i64 0, .int .u64 0, .string (⟨#[]⟩ : ByteArray), .slice none 0 0, .slice none 0 0] 33 (0, 0)) (by (with_reducible repeat (first | refine blk_drewN ?_ _ | refine blk_drew ?_ | refine blk_alloc ?_ _)); exact BK102.out) k_ hk, Kd.freshB (g := gb109) (o := .cells #[.int .i64 a0_0, .int .u64 x110001_27, .string a0_2, .slice Ao13 y106.length co13, u110004] 33 (0, 0)) (by (with_reducible repeat (first | refine blk_drewN ?_ _ | refine blk_drew ?_ | refine blk_alloc ?_ _)); exact BK109.out) k_ hk⟩))
                      (case aO => exact (by (with_reducible repeat (first | apply Kd.R_alloc | apply Kd.R_drewN | apply Kd.R_drew)); exact Kd.R_mono HO_110004.out (fun _ hk => ⟨hk.1.1.1, ⟨hk.1.1.2.1, hk.1.1.2.2⟩⟩)))
                      (case aS => exact (below_size (by repeat (first | (with_reducible first | exact HB.out | apply below_alloc | apply pw_below_drewN | apply below_drew1 | refine below_set ?_ GE101.out | refine below_set ?_ GE102.out | refine below_set ?_ GE109.out) | exact HB.out))))
                      (case aL => have := LMc42.out; omega)
                      intro v122 w48 ho hb hg hat
                      rw [← Ny121.out] at ho
                      have n0_ := Aside0.mk (Kd.R_over' (by (with_reducible repeat (first | apply Kd.R_alloc | apply Kd.R_drewN | apply Kd.R_drew)); exact HO_110003.out) (Kd.R_typed (by (with_reducible repeat (first | apply Kd.R_alloc | apply Kd.R_drewN | apply Kd.R_drew)); exact HO_110004.out)) (by decide) hg)
                      have n1_ := Aside0.mk (blk_grown (g := gb101) (o := .cells #[.int .i64 a0_0, .int .i64 a0_1, .string a0_2, .slice A0_3 l0_3.length c0_3, .slice (some ad111) l0_4.length c0_4] 26 (0, 0)) (by (with_reducible repeat (first | refine blk_drewN ?_ _ | refine blk_drew ?_ | refine blk_alloc ?_ _)); exact BK101.out) hg (Kd.R_ne HO_110004.out BK101.out (by decide)))
                      have n2_ := Aside0.mk (blk_grown (g := gb102) (o := .cells #[.int .i64 0, .int .u64 0, .string (⟨#[]⟩ : ByteArray), .slice none 0 0, .slice none 0 0] 33 (0, 0)) (by (with_reducible repeat (first | refine blk_drewN ?_ _ | refine blk_drew ?_ | refine blk_alloc ?_ _)); exact BK102.out) hg (Kd.R_away HO_110004.out (fun _ hk => hk.1.1.2.1)))
                      have n3_ := Aside0.mk (blk_grown (g := gb109) (o := .cells #[.int .i64 a0_0, .int .u64 x110001_27, .string a0_2, .slice Ao13 y106.length co13, u110004] 33 (0, 0)) (by (with_reducible repeat (first | refine blk_drewN ?_ _ | refine blk_drew ?_ | refine blk_alloc ?_ _)); exact BK109.out) hg (Kd.R_away HO_110004.out (fun _ hk => hk.1.1.2.2)))
                      have n4_ := Aside0.mk (hb)
                      have n5_ := Aside0.mk (ho)
                      clear HO_110003
                      clear BK101
                      clear BK102
                      clear BK109
                      clear HB
                      clear HO_110004
                      clear HO117
                      clear HO120
                      have HO_110003 := n0_
                      have BK101 := n1_
                      have BK102 := n2_
                      have BK109 := n3_
                      have HB := n4_
                      have HO123 := n5_
                      clear n0_ n1_ n2_ n3_ n4_ n5_
                      clear ho hb hg hat
                      obtain ⟨Ao51, co51, eo51⟩ := Kd.R_slice HO123.out
                      (first | subst eo51 | (injection eo51 with f1_ f2_ f3_; have f4_ := f1_.symm; have f5_ := f3_.symm; clear f1_ f2_ f3_; subst f4_; subst f5_))
                      refine hK.out _ _ ⟨(blk_cell BK109.out 0).trans rfl, (blk_cell BK109.out 1).trans rfl, (blk_cell BK109.out 2).trans rfl, (blk_cell BK109.out 3).trans rfl, (blk_cell BK109.out 4).trans rfl, (blk_cell BK101.out 0).trans rfl, (blk_cell BK101.out 1).trans rfl, (blk_cell BK101.out 2).trans rfl, (blk_cell BK101.out 3).trans rfl, (blk_cell BK101.out 4).trans rfl, ((HB.out.cell (World.block_lt_of_cell? w _ hw111_0)).trans hw111_0), ((HB.out.cell (World.block_lt_of_cell? w _ hw111_1)).trans hw111_1), ((HB.out.cell (World.block_lt_of_cell? w _ hw111_2)).trans hw111_2), ((HB.out.cell (World.block_lt_of_cell? w _ hw111_3)).trans hw111_3), ((HB.out.cell (World.block_lt_of_cell? w _ hw111_4)).trans hw111_4)⟩ (fun hHeld => ?_)
                      clear hK K
                      refine norm_ (a' := ?_) ?_ ?_
                      rotate_left
                      · show Act.put _ (some 44) _ = _
                        simp only [Act.put, List.setIfInBounds_toArray, List.set_cons_zero, List.set_cons_succ, i64_w, i32_w]
                        rfl
                      refine pure_ (i := 10) (N := some 45) (v := ?_) (a' := ?_) #[true, true, true, true, true, true, true, true, true, true, true, false] rfl rfl (any_of HT_.out (by kernel_rfl)) (fun _ _ _ h => h) (Or.inl ⟨by rfl, ?_⟩) ?_ ?_
                      rotate_left
                      · intro w'
                        go_simp
                        with_reducible rfl
                      rotate_left
                      · simp only [Act.put, List.setIfInBounds_toArray, List.set_cons_zero, List.set_cons_succ, i64_w, i32_w]
                        rfl
                      refine last_ (i := 11) (N := none) #[true, true, true, true, true, true, true, true, true, true, true, true] rfl rfl (one_of HT_.out (by kernel_rfl)) (by decide) (fun K hK => ?_)
                      have hs52 : w48.cell? ⟨gb109, 4, none⟩ = some (u110004) := (blk_cell BK109.out 4).trans rfl
                      have hfs52 := blk_frozen BK109.out 4
                      have hns52_0 := NB101_109.out
                      have hns52_1 := NB102_109.out
                      have hms52_0 := NB109_101.out
                      have hms52_1 := NB109_102.out
                      refine skip_ (w1 := ?_) (by rfl) rfl ?_ ?_
                      rotate_left
                      · go_simp
                        rfl
                      refine hK.out _ _ ?_
                      clear hK K
                      refine done_ (done_of HT_.out (by kernel_rfl)) ?_
                      try go_wp2
                      go_roundg k3
                      case measure => have := HJ2.out; have := HJ27.out; have := HK3.out; omega
                      case rel => exact ⟨(wrap64 (x4_3 + 1)), (y121), (.slice Ao51 y121.length co51), (by first | rfl | (simp; done) | (simp [*]; done)), H', ⟨by have := HJ2.out; have := HJ27.out; have := HK3.out; omega⟩, ⟨by (with_reducible repeat (first | apply Kd.R_alloc | apply Kd.R_drewN | apply Kd.R_drew)); exact Kd.R_mono (Kd.R_far (p := ⟨gb109, 4, none⟩) (Kd.R_types HO_110003.out BK109.out (by decide)) (fun _ hk => hk.2) (.slice Ao51 y121.length co51)) (fun _ hk => trivial)⟩, ⟨by (with_reducible repeat (first | apply Kd.R_alloc | apply Kd.R_drewN | apply Kd.R_drew)); exact Kd.R_mono (Kd.R_far (p := ⟨gb109, 4, none⟩) (Kd.R_mono HO123.out (fun k_ hk => (⟨hk, hk.2.2⟩ : _ ∧ k_ ≠ gb109))) (fun _ hk => hk.2) (.slice Ao51 y121.length co51)) (fun _ hk => ⟨hk.1.1, ⟨hk.1.2.1, hk.1.2.2⟩⟩)⟩, ⟨by (with_reducible repeat (first | refine blk_drewN ?_ _ | refine blk_drew ?_ | refine blk_alloc ?_ _)); refine blk_far ?_ NB101_109.out _; (with_reducible repeat (first | refine blk_drewN ?_ _ | refine blk_drew ?_ | refine blk_alloc ?_ _)); exact BK101.out⟩, ⟨by (with_reducible repeat (first | refine blk_drewN ?_ _ | refine blk_drew ?_ | refine blk_alloc ?_ _)); refine blk_far ?_ NB102_109.out _; (with_reducible repeat (first | refine blk_drewN ?_ _ | refine blk_drew ?_ | refine blk_alloc ?_ _)); exact BK102.out⟩, ⟨by (with_reducible repeat (first | refine blk_drewN ?_ _ | refine blk_drew ?_ | refine blk_alloc ?_ _)); refine blk_put (cs := #[.int .i64 a0_0, .int .u64 x110001_27, .string a0_2, .slice Ao13 y106.length co13, u110004]) ?_ 4 _ rfl; (with_reducible repeat (first | refine blk_drewN ?_ _ | refine blk_drew ?_ | refine blk_alloc ?_ _)); exact BK109.out⟩, ⟨by repeat (first | (with_reducible first | exact HB.out | apply below_alloc | apply pw_below_drewN | apply below_drew1 | refine below_set ?_ GE101.out | refine below_set ?_ GE102.out | refine below_set ?_ GE109.out) | exact HB.out)⟩⟩
                    · rw [if_neg c42] at H
                      exact absurd H (by simp)
                  · rw [if_neg c40] at H
                    exact absurd H (by simp)
                · rw [if_neg c39] at H
                  have c39b0 : decide (x4_3 < (l0_4.length : Int)) = false := decide_eq_false c39
                  clear c39
                  simp only [Option.some.injEq, Prod.mk.injEq] at H
                  obtain ⟨rfl, rfl, rfl, rfl, rfl⟩ := H
                  have hnb53 := NB101_102.out
                  have hnc53 := NB102_101.out
                  have hnb54 := NB101_109.out
                  have hnc54 := NB109_101.out
                  have hcz55_0 : wr.cell? ⟨gb101, 0, none⟩ = some (.int .i64 a0_0) := (blk_cell BK101.out 0).trans rfl
                  have hcz55_1 : wr.cell? ⟨gb101, 1, none⟩ = some (.int .i64 a0_1) := (blk_cell BK101.out 1).trans rfl
                  have hcz55_2 : wr.cell? ⟨gb101, 2, none⟩ = some (.string a0_2) := (blk_cell BK101.out 2).trans rfl
                  have hcz55_3 : wr.cell? ⟨gb101, 3, none⟩ = some (.slice A0_3 l0_3.length c0_3) := (blk_cell BK101.out 3).trans rfl
                  have hcz55_4 : wr.cell? ⟨gb101, 4, none⟩ = some (.slice A0_4 l0_4.length c0_4) := (blk_cell BK101.out 4).trans rfl
                  have hfz55_0 := blk_frozen BK101.out 0
                  have hfz55_1 := blk_frozen BK101.out 1
                  have hfz55_2 := blk_frozen BK101.out 2
                  have hfz55_3 := blk_frozen BK101.out 3
                  have hfz55_4 := blk_frozen BK101.out 4
                  have hnb56 := NB109_102.out
                  have hnc56 := NB102_109.out
                  have hcz57_0 : wr.cell? ⟨gb109, 0, none⟩ = some (.int .i64 a0_0) := (blk_cell BK109.out 0).trans rfl
                  have hcz57_1 : wr.cell? ⟨gb109, 1, none⟩ = some (.int .u64 x110001_27) := (blk_cell BK109.out 1).trans rfl
                  have hcz57_2 : wr.cell? ⟨gb109, 2, none⟩ = some (.string a0_2) := (blk_cell BK109.out 2).trans rfl
                  have hcz57_3 : wr.cell? ⟨gb109, 3, none⟩ = some (.slice Ao13 y106.length co13) := (blk_cell BK109.out 3).trans rfl
                  have hcz57_4 : wr.cell? ⟨gb109, 4, none⟩ = some (u110004) := (blk_cell BK109.out 4).trans rfl
                  have hfz57_0 := blk_frozen BK109.out 0
                  have hfz57_1 := blk_frozen BK109.out 1
                  have hfz57_2 := blk_frozen BK109.out 2
                  have hfz57_3 := blk_frozen BK109.out 3
                  have hfz57_4 := blk_frozen BK109.out 4
                  have hcz58_0 : wr.cell? ⟨gb102, 0, none⟩ = some (.int .i64 0) := (blk_cell BK102.out 0).trans rfl
                  have hcz58_1 : wr.cell? ⟨gb102, 1, none⟩ = some (.int .u64 0) := (blk_cell BK102.out 1).trans rfl
                  have hcz58_2 : wr.cell? ⟨gb102, 2, none⟩ = some (.string (⟨#[]⟩ : ByteArray)) := (blk_cell BK102.out 2).trans rfl
                  have hcz58_3 : wr.cell? ⟨gb102, 3, none⟩ = some (.slice none 0 0) := (blk_cell BK102.out 3).trans rfl
                  have hcz58_4 : wr.cell? ⟨gb102, 4, none⟩ = some (.slice none 0 0) := (blk_cell BK102.out 4).trans rfl
                  have hfz58_0 := blk_frozen BK102.out 0
                  have hfz58_1 := blk_frozen BK102.out 1
                  have hfz58_2 := blk_frozen BK102.out 2
                  have hfz58_3 := blk_frozen BK102.out 3
                  have hfz58_4 := blk_frozen BK102.out 4
                  obtain ⟨Ao59, co59, eo59⟩ := Kd.R_slice HO_110004.out
                  subst eo59
                  go_wp2
                  refine bodyPost_ret (results_cell_row rfl _ _ gb102 33 #[.int .i64 a0_0, .int .u64 x110001_27, .string a0_2, .slice Ao13 y106.length co13, .slice Ao59 x110004_3.length co59] (0, 0) _ rfl (by (with_reducible repeat (first | refine blk_drewN ?_ _ | refine blk_drew ?_ | refine blk_alloc ?_ _)); refine blk_put (cs := #[.int .i64 a0_0, .int .u64 x110001_27, .string a0_2, .slice Ao13 y106.length co13, .slice none 0 0]) ?_ 4 _ rfl; (with_reducible repeat (first | refine blk_drewN ?_ _ | refine blk_drew ?_ | refine blk_alloc ?_ _)); refine blk_put (cs := #[.int .i64 a0_0, .int .u64 x110001_27, .string a0_2, .slice none 0 0, .slice none 0 0]) ?_ 3 _ rfl; (with_reducible repeat (first | refine blk_drewN ?_ _ | refine blk_drew ?_ | refine blk_alloc ?_ _)); refine blk_put (cs := #[.int .i64 a0_0, .int .u64 x110001_27, .string (⟨#[]⟩ : ByteArray), .slice none 0 0, .slice none 0 0]) ?_ 2 _ rfl; (with_reducible repeat (first | refine blk_drewN ?_ _ | refine blk_drew ?_ | refine blk_alloc ?_ _)); refine blk_put (cs := #[.int .i64 a0_0, .int .u64 0, .string (⟨#[]⟩ : ByteArray), .slice none 0 0, .slice none 0 0]) ?_ 1 _ rfl; (with_reducible repeat (first | refine blk_drewN ?_ _ | refine blk_drew ?_ | refine blk_alloc ?_ _)); refine blk_put (cs := #[.int .i64 0, .int .u64 0, .string (⟨#[]⟩ : ByteArray), .slice none 0 0, .slice none 0 0]) ?_ 0 _ rfl; (with_reducible repeat (first | refine blk_drewN ?_ _ | refine blk_drew ?_ | refine blk_alloc ?_ _)); exact BK102.out) Try.underlying33 rfl (by kernel_rfl)) rfl ?_
                  exact ⟨_, _, by first | rfl | (simp [errW_none, errW_some] <;> rfl) | (simp [*, errW_none, errW_some] <;> rfl), by (with_reducible repeat (first | apply Kd.R_alloc | apply Kd.R_drewN | apply Kd.R_drew)); exact Kd.R_mono (Kd.R_far (p := ⟨gb102, 4, none⟩) (Kd.R_far (p := ⟨gb102, 3, none⟩) (Kd.R_far (p := ⟨gb102, 2, none⟩) (Kd.R_far (p := ⟨gb102, 1, none⟩) (Kd.R_far (p := ⟨gb102, 0, none⟩) (Kd.R_types HO_110003.out BK102.out (by decide)) (fun _ hk => hk.2) (.int .i64 a0_0)) (fun _ hk => hk.2) (.int .u64 x110001_27)) (fun _ hk => hk.2) (.string a0_2)) (fun _ hk => hk.2) (.slice Ao13 y106.length co13)) (fun _ hk => hk.2) (.slice Ao59 x110004_3.length co59)) (fun _ hk => trivial), by (with_reducible repeat (first | apply Kd.R_alloc | apply Kd.R_drewN | apply Kd.R_drew)); exact Kd.R_mono (Kd.R_far (p := ⟨gb102, 4, none⟩) (Kd.R_far (p := ⟨gb102, 3, none⟩) (Kd.R_far (p := ⟨gb102, 2, none⟩) (Kd.R_far (p := ⟨gb102, 1, none⟩) (Kd.R_far (p := ⟨gb102, 0, none⟩) (Kd.R_mono HO_110004.out (fun k_ hk => (⟨hk, hk.2.1⟩ : _ ∧ k_ ≠ gb102))) (fun _ hk => hk.2) (.int .i64 a0_0)) (fun _ hk => hk.2) (.int .u64 x110001_27)) (fun _ hk => hk.2) (.string a0_2)) (fun _ hk => hk.2) (.slice Ao13 y106.length co13)) (fun _ hk => hk.2) (.slice Ao59 x110004_3.length co59)) (fun _ hk => hk.1.1), by repeat (first | (with_reducible first | exact HB.out | apply below_alloc | apply pw_below_drewN | apply below_drew1 | refine below_set ?_ GE101.out | refine below_set ?_ GE102.out | refine below_set ?_ GE109.out) | exact HB.out)⟩
  · rw [if_neg c2] at H
    exact absurd H (by simp)

end Go.Proofs.Ytlhaifbmacndeaa.PJS
