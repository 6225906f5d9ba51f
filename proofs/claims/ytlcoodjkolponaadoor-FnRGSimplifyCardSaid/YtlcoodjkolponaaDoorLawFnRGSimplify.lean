/-
  The row and the card of laws.FnRGSimplify: out of the walk of the law.
-/
import Derived.Test.YtlcoodjkolponaaDoorCards
import Derived.Test.YtlcoodjkolponaaDoorTie
import Derived.Test.YtlcoodjkolponaaDoorRSh
import Derived.Test.YtlcoodjkolponaaDoorRUc
import Derived.WalkKit
import Derived.ProofKit
import Derived.OpenShut
import Derived.OpenVars
import Derived.ChangeVars
import Derived.Deep.DeepHandedRow
import Derived.Lib.LaidTab
import Derived.Lib.SmallJoins
namespace Go.Proofs.YtlcoodjkolponaaDoor.PRR
open Go.RowKit Go.Proofs.YtlcoodjkolponaaDoorW.PrintWords Go.Deep Go.ChangeShapes Go.WideShapes
/-- The argument. -/
theorem cols_C2 {H : Type} {enc : TypeId × Value → H} {W : World} {base : Nat} {spare : Nat → Bool} {held : Bool} {a0 : Option Addr} {len0 cap0 : Nat} {d : DataW H} {ps : List MemPlace} (h : DataW.Trod enc Tryd.prog W base spare held 40 (.slice a0 len0 cap0) d ps) :
    ∃ l : List S44, l.length = len0 ∧ (∀ y ∈ l, WholeS y) ∧ Kd.C k44 W a0 len0 l := by
  obtain ⟨fuel, hf⟩ := h
  have hf : DataW.trod enc Tryd.prog W base spare held fuel 40 [.slice a0 len0 cap0] = some (d, ps) := by simpa [Value.cells] using hf
  obtain ⟨l, hw, A, c, e, _, hC⟩ := cols_K _ _ _ hf
  cases e
  exact ⟨l, rfl, hw, hC⟩
end Go.Proofs.YtlcoodjkolponaaDoor.PRR
namespace Go.Proofs.YtlcoodjkolponaaDoor.fnRGSimplify
open Go.ChangeShapes Go.WideShapes Go.ChangeAt Go.RowKit Go.Joins
set_option linter.unusedVariables false
set_option maxRecDepth 100000
theorem own : ownKnob Tryd.prog.godebug = none := by kernel_rfl
theorem laidOut : laidOutB Tryd.prog = true := by kernel_rfl

theorem contract (H : Type) (enc : TypeId × Value → H) (W : World) (base : Nat) (args : Array Value) (ds gs : List (DataW H)) (before : List MemPlace)
    (hval0 : ∀ (j : Nat) t v, Tryd.f9.params[j]? = some t → args[j]? = some v → Value.okWide Tryd.prog W .any base t v)
    (hW : DataW.Whole enc Tryd.prog Tryd.f9.params.toList Rows.fnRGSimplifySpec.vars false W args.toList ds gs before) :
    Calls Tryd.prog 9 args W fun e W' => ∃ v, e = .returned v ∧ Rows.fnRGSimplifySpec.post enc Tryd.prog Tryd.f9 false true false false W args v W' := by
  have hval : ∀ (j : Nat) t v, Tryd.f9.params[j]? = some t → args[j]? = some v → Value.okWide Tryd.prog W .any base t v := hval0
  have hW' := hW
  obtain ⟨p, q, hA0, hV, rfl, hfz, hnd⟩ := hW
  have hA : DataW.TrodAll enc Tryd.prog W 0 (fun _ => true) true Tryd.f9.params.toList args.toList ds p := hA0
  rw [Tryd.params9] at hA hval
  obtain ⟨v0, vs0, d0, ds0, p0, q0, hargs, rfl, rfl, h0, r0⟩ := trodAll_cons hA
  obtain ⟨rfl, rfl, rfl⟩ := trodAll_nil r0
  obtain rfl : args = #[v0] := by cases args; simp_all
  have lt0 : ∀ x ∈ p0, x.block < W.heap.size := by have k := h0; obtain ⟨m, hm⟩ := k; exact DataW.trod_lt m _ _ _ hm
  obtain ⟨g, tg, cs, fuel, dg, pg, rfl, _⟩ := trodVars_one hV
  obtain ⟨a0, len0, cap0, rfl⟩ := okWide_slice Tryd.underlying40 (hval 0 40 v0 rfl rfl)
  have k0 := h0
  obtain ⟨l0, rfl, hw0, hC0⟩ := PRR.cols_C2 h0
  clear hA0 hval0
  refine (PRR.law9_ok a0 cap0 l0 hw0 W hC0).mono fun e W' ⟨he, bel⟩ => ?_
  subst he
  exact ⟨_, rfl, _, _, _, [], _, _, hW', trodAll_mk1 (shut_bool Tryd.underlying4 _),
    (trodAll_cons_mk (Below.trod laidOut (by kernel_rfl) (of_decide_eq_true (by kernel_rfl)) k0 bel lt0) trodAll_mk0),
    Below.trodVars laidOut bel (by kernel_rfl) hV, bel.frame _, fun h => by cases h⟩

noncomputable def world (os : Os) : World := World.holding Tryd.prog os ⟨#[], #[], []⟩
def wargs : Array Value := #[.slice none 0 0]
theorem laid_met (os : Os) : laidMet Tryd.prog Rows.fnRGSimplifyRow.laid ((world os).forCall (fun _ _ => 0) ⟨#[], wargs, []⟩).memory :=
  laidMet_of_run' 8 (by kernel_rfl) (by kernel_rfl)
theorem reads (os : Os) {H : Type} (enc : TypeId × Value → H) : ∃ ds gs places, DataW.whole enc Tryd.prog ((world os).forCall (fun _ _ => 0) ⟨#[], wargs, []⟩).memory Tryd.f9.params.toList Rows.fnRGSimplifySpec.vars false wargs.toList 8 = some (ds, gs, places) :=
  ⟨[.nil], [.agg []], [], by kernel_rfl⟩

theorem lifted (os : Os) (started : os.Started) (H : Type) (enc : TypeId × Value → H) (F : Stop.Interp) :
    ReturnsInHanded {} Tryd.checked os 9 .any ((OpenSpec.ofChange Rows.fnRGSimplifySpec).preRow enc Tryd.prog Tryd.f9 Rows.fnRGSimplifyRow.domain false Rows.fnRGSimplifyRow.laid) (((OpenSpec.ofChange Rows.fnRGSimplifySpec).at F).post enc Tryd.prog Tryd.f9 false true false false) := by
  have hx : DataW.whole enc Tryd.prog ((world os).forCall (fun _ _ => 0) ⟨#[], wargs, []⟩).memory Tryd.f9.params.toList Rows.fnRGSimplifySpec.vars false wargs.toList 8 = some ([.nil], [.agg []], []) := by kernel_rfl
  refine returnsInHanded_of_row (C := Tryd.checked) (s := OpenSpec.ofChange Rows.fnRGSimplifySpec) own started (by kernel_rfl) Tryd.func9
    (witness_row_at (enc := enc) (C := Tryd.checked) false (world os) wargs rfl (by kernel_rfl) (by kernel_rfl) (by kernel_rfl)
      (OpenSpec.preRow_of_cond 8 hx (by kernel_rfl) (fun k hk => by cases hk) (by kernel_rfl) (laid_met os))) ?_
  intro W base args ds gs before hval hW _ _ _ _ _ _
  exact contract H enc W base args ds gs before hval hW

theorem said : Rows.FnRGSimplifySaid :=
  OpenClaim.holds_of_cond 9 Tryd.f9 rfl rfl rfl rfl rfl rfl rfl ⟨rfl, rfl, rfl, rfl, rfl⟩ rfl rfl rfl rfl rfl (by kernel_rfl) Tryd.func9 (by kernel_rfl)
    (of_decide_eq_true (by kernel_rfl)) (by unfold Func.isWrapper; first | (rw [if_pos (by decide +kernel)]; kernel_rfl) | (rw [if_neg (by decide +kernel)]; exact ⟨rfl, rfl⟩))
    (fun os started H enc _ F => by rw [OpenClaim.pre_eq_preRow]; exact lifted os started H enc F)

theorem plain (f : FuncId) (fn : Func) (hf : Tryd.pinned.checked.prog.funcNamed "given.example/pub-abaculus/laws.FnRGSimplify" = some f) (hfn : Tryd.pinned.checked.prog.funcs[f]? = some fn) :
    true = Tryd.pinned.checked.prog.looks [] ∧ ∀ (j : Nat) t, fn.params[j]? = some t → Tryd.pinned.checked.prog.wantsStandIn t = false := by
  obtain rfl : f = 9 := Option.some.inj ((show Tryd.prog.funcNamed "given.example/pub-abaculus/laws.FnRGSimplify" = some 9 by kernel_rfl).symm.trans hf) |>.symm
  obtain rfl : fn = Tryd.f9 := (Option.some.inj (Tryd.func9.symm.trans hfn)).symm
  refine ⟨by kernel_rfl, fun j t ht => ?_⟩
  rw [Tryd.params9] at ht
  have hm : t ∈ [40] := by simpa using Array.mem_of_getElem? ht
  have hall : ([40].all fun u => !Tryd.prog.wantsStandIn u) = true := by kernel_rfl
  exact (show Tryd.prog.wantsStandIn t = false by simpa using List.all_eq_true.1 hall t hm)

theorem card : Rows.FnRGSimplifyCardSaid :=
  Claim7.holds_tied_plain_at .later [] _ _ _ _ said (fun _ h => by cases h) (by kernel_rfl) (fun _ h => by cases h) fnRGSimplify_row_tie rfl ⟨rfl, rfl⟩ (by kernel_rfl) rfl plain (by kernel_rfl)
end Go.Proofs.YtlcoodjkolponaaDoor.fnRGSimplify
namespace Go.Proofs.YtlcoodjkolponaaDoor
/-- The card, under a short name, for the claim. -/
theorem fnRGSimplifyCard_holds : Rows.FnRGSimplifyCardSaid := fnRGSimplify.card
end Go.Proofs.YtlcoodjkolponaaDoor
