/-
  FnDYLeaps: for every uint16 the law returns true and leaves the input as it reads. No condition.
  THE SHELL OF A PROOF OF 'Rows.FnDYLeapsSaid' ('given.example/pub-abaculus/laws.FnDYLeaps'), WRITTEN BY PROGRAM (proof-skeleton.mjs) off the guide's own print for that function. Not trusted: Lean checks it.
  YOURS ARE THE HOLES MARKED 'HOLE' (each bears 'sorry'). ALL ELSE IS THE GUIDE's TEMPLATE (howto/template/XProofs.lean) at this function's number and types: leave it.
-/
import Derived.Test.YthicaehcoingeaaRows
import Derived.WalkKit
import Derived.ProofKit
import Derived.OpenShut
namespace Go.Proofs.Ythicaehcoingeaa.fnDYLeaps
open Go.ChangeShapes Go.WideShapes Go.ChangeAt Go.RowKit
set_option linter.unusedVariables false      -- a walk need not use every 'w<i>' (that an integer argument fits its kind)

theorem own : ownKnob Try.prog.godebug = none := by kernel_rfl


/-! ### THE PLAIN LAW: no Go in sight -/
def leaps (y : Int) : Int := y / 4 - y / 100 + y / 400
theorem leaps_bd (y : Int) (h0 : 0 ≤ y) (h1 : y ≤ 20000) : 0 ≤ leaps y ∧ leaps y ≤ 20000 := by unfold leaps; omega
theorem leaps_step (y : Int) (h0 : 0 ≤ y) : 0 ≤ leaps (y + 1) - leaps y ∧ leaps (y + 1) - leaps y ≤ 1 := by unfold leaps; omega
theorem leaps_400 (y : Int) : leaps (400 + y) - leaps y = 97 := by unfold leaps; omega

theorem counts (y : Int) (h0 : 0 ≤ y) (h1 : y ≤ 20000) (w : World) :
    Calls Try.prog 16 #[.int .i64 y] w fun e w' => e = .returned (.int .i64 (leaps y)) ∧ w = w' := by
  go_enter Try.func16, Try.ntmps16
  go_wp2
  go_ret
  exact ⟨by unfold leaps; rfl, rfl⟩
theorem Counts (y : Int) (h0 : 0 ≤ y) (h1 : y ≤ 20000) (w : World) :
    Calls Try.prog 11 #[.int .i64 y] w fun e w' => e = .returned (.int .i64 (leaps y)) ∧ w = w' := by
  go_enter Try.func11, Try.ntmps11
  go_wp2_with (go_at_call 16; refine (counts _ (by omega) (by omega) _).mono ?_; rintro e w' ⟨rfl, rfl⟩)
  go_ret
  exact ⟨rfl, rfl⟩
theorem dyleaps (y : Int) (h0 : 0 ≤ y) (h1 : y ≤ 20000) (w : World) :
    Calls Try.prog 6 #[.int .i64 y] w fun e w' => e = .returned (.int .i64 (leaps y)) ∧ w = w' := by
  go_enter Try.func6, Try.ntmps6
  go_wp2_with (go_at_call 11; refine (Counts _ (by omega) (by omega) _).mono ?_; rintro e w' ⟨rfl, rfl⟩)
  go_ret
  exact ⟨rfl, rfl⟩

theorem walk (a0 : Int) (w0 : (Lit.int .u16 a0).wf = true) (w : World) :
    Calls Try.prog 3 #[.int .u16 a0] w fun e w' => e = .returned (.bool true) ∧ Grown w w' := by
  have hb := bounds_u16 w0
  obtain ⟨h0, h1⟩ := hb
  have e0 : 0 ≤ 1 + a0 % 9998 - 1 := by omega
  have e1 : 1 + a0 % 9998 ≤ 9998 := by omega
  have e2 : 0 ≤ 1 + a0 % 9998 := by omega
  have s1 := leaps_step _ e0
  rw [show 1 + a0 % 9998 - 1 + 1 = 1 + a0 % 9998 from by omega] at s1
  have s2 := leaps_step _ e2
  have s3 : (leaps (400 + (1 + a0 % 9998)) - leaps (1 + a0 % 9998) == 97) = true := by rw [leaps_400]; rfl
  have b1 := leaps_bd _ e0 (by omega)
  have b2 := leaps_bd (1 + a0 % 9998) e2 (by omega)
  have b3 := leaps_bd (1 + a0 % 9998 + 1) (by omega) (by omega)
  have b4 := leaps_bd (400 + (1 + a0 % 9998)) (by omega) (by omega)
  obtain ⟨p1, p2⟩ := s1
  obtain ⟨p3, p4⟩ := s2
  go_enter Try.func3, Try.ntmps3
  go_wp2_with (go_at_call 6; refine (dyleaps _ (by omega) (by omega) _).mono ?_; rintro e w' ⟨rfl, rfl⟩)
  go_ret
  exact ⟨rfl, Grown.refl _⟩

/-! ### THE ROW's STEP: WRITTEN OUT: LEAVE IT -/
set_option maxRecDepth 100000 in
theorem lifted (os : Os) (started : os.Started) (H : Type) (enc : TypeId × Value → H) :
    ReturnsInHanded {} Try.checked os 3 .any (Rows.fnDYLeapsSpec.pre6 enc Try.prog Try.f3 Rows.fnDYLeapsRow.domain false) (Rows.fnDYLeapsSpec.post enc Try.prog Try.f3 false true false false) := by
  refine returnsInHanded_of_change (C := Try.checked) own started (by kernel_rfl) Try.func3
    (ChangeSpec.witness6 (enc := enc) (C := Try.checked) false ⟨#[], #[.int .u16 0], []⟩ 8 (by kernel_rfl) (by kernel_rfl) (by kernel_rfl) (by kernel_rfl)) ?_
  intro W base args ds gs before hval0 hW hcnd _
  have hval : ∀ (j : Nat) t v, Try.f3.params[j]? = some t → args[j]? = some v → Value.okWide Try.prog W .any base t v := hval0
  have hW' := hW
  obtain ⟨p, q, hA0, hV, rfl, hfz, hnd⟩ := hW
  have hA : DataW.TrodAll enc Try.prog W 0 (fun _ => true) true Try.f3.params.toList args.toList ds p := hA0
  rw [Try.params3] at hA hval
  obtain ⟨v0, vs0, d0, ds0, p0, q0, hargs, rfl, rfl, h0, r0⟩ := trodAll_cons hA
  obtain ⟨rfl, rfl, rfl⟩ := trodAll_nil r0
  obtain rfl : args = #[v0] := by cases args; simp_all
  obtain ⟨rfl, rfl⟩ := trodVars_none hV
  obtain ⟨a0, rfl, rfl, rfl, w0⟩ := open_int Try.underlying22 (hval 0 22 v0 rfl rfl) h0
  clear hA0 hval0
  simp only [List.append_nil] at hW'
  refine (walk a0 w0 W).mono fun e W' ⟨he, hg⟩ => ?_
  subst he
  exact ⟨_, rfl, post_of_same (pa := []) (pv := []) hW' (fun _ _ _ => (trodAll_cons_mk (shut_bool Try.underlying4 _) trodAll_mk0)) (fun sp _ => (trodAll_cons_mk (shut_int Try.underlying22 w0) trodAll_mk0)) (fun _ _ => rfl) rfl
    (hg.frame _) hg.2.1 (ok_one (by kernel_rfl) rfl (okWide_bool_mk Try.underlying4 _))⟩

theorem over : Rows.fnDYLeapsRow.holds Try.pinned (OpenSpec.ofChange Rows.fnDYLeapsSpec) :=
  OpenClaim.holds_of_wide 3 Try.f3 rfl rfl rfl rfl rfl rfl rfl ⟨rfl, rfl, rfl, rfl, rfl⟩ rfl rfl rfl rfl rfl (by kernel_rfl) Try.func3 (by kernel_rfl)
    (of_decide_eq_true (by kernel_rfl)) (by unfold Func.isWrapper; first | (rw [if_pos (by decide +kernel)]; kernel_rfl) | (rw [if_neg (by decide +kernel)]; exact ⟨rfl, rfl⟩))
    (fun os started H enc _ => lifted os started H enc)

/-- ████ THE STATEMENT ████ -/
theorem proved : Rows.FnDYLeapsSaid :=
  over
#print axioms proved
end Go.Proofs.Ythicaehcoingeaa.fnDYLeaps
