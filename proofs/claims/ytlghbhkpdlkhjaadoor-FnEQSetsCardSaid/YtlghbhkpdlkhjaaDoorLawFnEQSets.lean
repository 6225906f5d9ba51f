/-
  The row and the card of laws.FnEQSets: out of the contract of the law's text and of the plain law. No condition.
-/
import Derived.Test.YtlghbhkpdlkhjaaDoorCards
import Derived.Test.YtlghbhkpdlkhjaaDoorTie
import Derived.Test.YtlghbhkpdlkhjaaDoorRows
import Derived.Test.YtlghbhkpdlkhjaaDoorPureEQb
import Derived.Test.YtlghbhkpdlkhjaaDoorEQh
import Derived.WalkKit
import Derived.ProofKit
import Derived.OpenShut
import Derived.ShutString
import Derived.ChangeOld
import Derived.Below
import Derived.SizedLaws
import Derived.Test.YtlghbhkpdlkhjaaDoorWSized
import Derived.OpenVars
import Derived.ChangeVars
import Derived.Deep.DeepHandedRow
import Derived.Lib.LaidTab
import Derived.Lib.SmallJoins
import Derived.Test.YtlghbhkpdlkhjaaDoorISW
namespace Go.Proofs.YtlghbhkpdlkhjaaDoor.fnEQSets
open Go.ChangeShapes Go.WideShapes Go.ChangeAt Go.RowKit Go.Joins
open Go.ChangeMaps (open_string shut_string)
set_option linter.unusedVariables false
set_option maxRecDepth 100000
theorem own : ownKnob Tryd.prog.godebug = none := by kernel_rfl
theorem laidOut : laidOutB Tryd.prog = true := by kernel_rfl

theorem contract (H : Type) (enc : TypeId × Value → H) (W : World) (base : Nat) (args : Array Value) (ds gs : List (DataW H)) (before : List MemPlace)
    (hval0 : ∀ (j : Nat) t v, Tryd.f4.params[j]? = some t → args[j]? = some v → Value.okWide Tryd.prog W .any base t v)
    (hW : DataW.Whole enc Tryd.prog Tryd.f4.params.toList Rows.fnEQSetsSpec.vars false W args.toList ds gs before)
    (hsz0 : (DataW.weightsEach Tryd.prog (Tryd.f4.params.toList ++ Rows.fnEQSetsSpec.plain.varTypes Tryd.prog) (ds ++ gs)).all (· ≤ reachBytes) = true)
    (hL : laidMet Tryd.prog Rows.fnEQSetsRow.laid W) (hsh : W.ShapedOpen Tryd.prog) :
    Calls Tryd.prog 4 args W fun e W' => ∃ v, e = .returned v ∧ Rows.fnEQSetsSpec.post enc Tryd.prog Tryd.f4 false true false false W args v W' := by
  have hsz : (DataW.weightsEach Tryd.prog (Tryd.f4.params.toList ++ Rows.fnEQSetsSpec.plain.varTypes Tryd.prog) (ds ++ gs)).all (· ≤ reachBytes) = true := hsz0
  have hval : ∀ (j : Nat) t v, Tryd.f4.params[j]? = some t → args[j]? = some v → Value.okWide Tryd.prog W .any base t v := hval0
  have hW' := hW
  obtain ⟨p, q, hA0, hV, rfl, hfz, hnd⟩ := hW
  have hA : DataW.TrodAll enc Tryd.prog W 0 (fun _ => true) true Tryd.f4.params.toList args.toList ds p := hA0
  rw [Tryd.params4] at hA hval hsz
  obtain ⟨v0, vs0, d0, ds0, p0, q0, hargs, rfl, rfl, h0, r0⟩ := trodAll_cons hA
  obtain ⟨rfl, rfl, rfl⟩ := trodAll_nil r0
  obtain rfl : args = #[v0] := by cases args; simp_all
  obtain ⟨rfl, rfl⟩ := trodVars_none hV
  obtain ⟨a0, len0, cap0, rfl⟩ := okWide_slice Tryd.underlying29 (hval 0 29 v0 rfl rfl)
  have k0 := h0
  have lt0 : ∀ x ∈ p0, x.block < W.heap.size := by obtain ⟨m, hm⟩ := k0; exact DataW.trod_lt m _ _ _ hm
  obtain ⟨l, rfl, hcl, hCl⟩ := PEQ.rows_C (spare := fun _ => true) h0
  clear hA0 hval0 hsz0 hsz
  have hg : PIS.Glob W := ISW.glob hL
  refine (PEQ.walk4 a0 cap0 l W hg hCl hcl).mono fun e W' ⟨he, bel⟩ => ?_
  subst he
  exact ⟨_, rfl, _, _, _, [], _, [], hW', trodAll_mk1 (shut_bool Tryd.underlying4 _), (trodAll_cons_mk (Below.trod laidOut (by kernel_rfl) (of_decide_eq_true (by kernel_rfl)) k0 bel lt0) trodAll_mk0), rfl, bel.frame _, fun h => by cases h⟩

noncomputable def world (os : Os) : World := ISW.laidWorld os
def wargs : Array Value := #[.slice none 0 0]
theorem laid_met (os : Os) : laidMet Tryd.prog Rows.fnEQSetsRow.laid ((world os).forCall (fun _ _ => 0) ⟨#[], wargs, []⟩).memory :=
  ISW.met os _

theorem lifted (os : Os) (started : os.Started) (H : Type) (enc : TypeId × Value → H) (F : Stop.Interp) :
    ReturnsInHanded {} Tryd.checked os 4 .any ((OpenSpec.ofChange Rows.fnEQSetsSpec).preRow enc Tryd.prog Tryd.f4 Rows.fnEQSetsRow.domain false Rows.fnEQSetsRow.laid) (((OpenSpec.ofChange Rows.fnEQSetsSpec).at F).post enc Tryd.prog Tryd.f4 false true false false) := by
  have hx : DataW.whole enc Tryd.prog ((world os).forCall (fun _ _ => 0) ⟨#[], wargs, []⟩).memory Tryd.f4.params.toList Rows.fnEQSetsSpec.vars false wargs.toList 8 = some ([.nil], [], []) := by kernel_rfl
  refine returnsInHanded_of_row (C := Tryd.checked) (s := OpenSpec.ofChange Rows.fnEQSetsSpec) own started (by kernel_rfl) Tryd.func4
    (witness_row_atRef (enc := enc) (C := Tryd.checked) false (world os) wargs rfl (by kernel_rfl) (by kernel_rfl) (by kernel_rfl)
      (OpenSpec.preRow_of_cond 8 hx (by kernel_rfl) (fun k hk => by cases hk) (by kernel_rfl) (laid_met os))) ?_
  intro W base args ds gs before hval hW _ _ hsz hL hsh _
  exact contract H enc W base args ds gs before hval hW hsz hL hsh

theorem said : Rows.FnEQSetsSaid :=
  OpenClaim.holds_of_cond 4 Tryd.f4 rfl rfl rfl rfl rfl rfl rfl ⟨rfl, rfl, rfl, rfl, rfl⟩ rfl rfl rfl rfl rfl (by kernel_rfl) Tryd.func4 (by kernel_rfl)
    (of_decide_eq_true (by kernel_rfl)) (by unfold Func.isWrapper; first | (rw [if_pos (by decide +kernel)]; kernel_rfl) | (rw [if_neg (by decide +kernel)]; exact ⟨rfl, rfl⟩))
    (fun os started H enc _ F => by rw [OpenClaim.pre_eq_preRow]; exact lifted os started H enc F)

theorem plain (f : FuncId) (fn : Func) (hf : Tryd.pinned.checked.prog.funcNamed "given.example/pub-abaculus/laws.FnEQSets" = some f) (hfn : Tryd.pinned.checked.prog.funcs[f]? = some fn) :
    false = Tryd.pinned.checked.prog.looks [] ∧ ∀ (j : Nat) t, fn.params[j]? = some t → Tryd.pinned.checked.prog.wantsStandIn t = false := by
  obtain rfl : f = 4 := Option.some.inj ((show Tryd.prog.funcNamed "given.example/pub-abaculus/laws.FnEQSets" = some 4 by kernel_rfl).symm.trans hf) |>.symm
  obtain rfl : fn = Tryd.f4 := (Option.some.inj (Tryd.func4.symm.trans hfn)).symm
  refine ⟨by kernel_rfl, fun j t ht => ?_⟩
  rw [Tryd.params4] at ht
  have hm : t ∈ [29] := by simpa using Array.mem_of_getElem? ht
  have hall : ([29].all fun u => !Tryd.prog.wantsStandIn u) = true := by kernel_rfl
  exact (show Tryd.prog.wantsStandIn t = false by simpa using List.all_eq_true.1 hall t hm)

theorem card : Rows.FnEQSetsCardSaid :=
  Claim7.holds_tied_plain_at .later [] _ _ _ _ said (fun _ h => by cases h) (by kernel_rfl) (fun _ h => by cases h) fnEQSets_row_tie rfl ⟨rfl, rfl⟩ (by kernel_rfl) rfl plain (by kernel_rfl)
end Go.Proofs.YtlghbhkpdlkhjaaDoor.fnEQSets
namespace Go.Proofs.YtlghbhkpdlkhjaaDoor
/-- The card, under a short name, for the claim. -/
theorem fnEQSetsCard_holds : Rows.FnEQSetsCardSaid := fnEQSets.card
end Go.Proofs.YtlghbhkpdlkhjaaDoor
