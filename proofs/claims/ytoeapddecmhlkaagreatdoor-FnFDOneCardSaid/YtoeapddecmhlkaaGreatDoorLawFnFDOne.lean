/-
  The row and the card of laws.FnFDOne: out of the contract of the law's text and of the plain law. No condition.
-/
import Derived.Test.YtoeapddecmhlkaaGreatDoorCards
import Derived.Test.YtoeapddecmhlkaaGreatDoorTie
import Derived.Test.YtoeapddecmhlkaaGreatDoorRows
import Derived.Test.YtoeapddecmhlkaaGreatDoorFDh
import Derived.WalkKit
import Derived.ProofKit
import Derived.OpenShut
import Derived.ShutString
import Derived.ChangeOld
import Derived.Below
import Derived.SizedLaws
import Derived.OpenVars
import Derived.ChangeVars
import Derived.Deep.DeepHandedRow
import Derived.Lib.LaidTab
import Derived.Lib.SmallJoins
import Derived.Test.YtoeapddecmhlkaaGreatDoorFDW
namespace Go.Proofs.YtoeapddecmhlkaaGreatDoor.fnFDOne
open Go.ChangeShapes Go.WideShapes Go.ChangeAt Go.RowKit Go.Joins
open Go.ChangeMaps (open_string shut_string)
set_option linter.unusedVariables false
set_option maxRecDepth 100000
theorem own : ownKnob Tryz.prog.godebug = none := by kernel_rfl
theorem laidOut : laidOutB Tryz.prog = true := by kernel_rfl

theorem contract (H : Type) (enc : TypeId × Value → H) (W : World) (base : Nat) (args : Array Value) (ds gs : List (DataW H)) (before : List MemPlace)
    (hval0 : ∀ (j : Nat) t v, Tryz.f3.params[j]? = some t → args[j]? = some v → Value.okWide Tryz.prog W .any base t v)
    (hW : DataW.Whole enc Tryz.prog Tryz.f3.params.toList Rows.fnFDOneSpec.vars false W args.toList ds gs before)
    (hsz0 : (DataW.weightsEach Tryz.prog (Tryz.f3.params.toList ++ Rows.fnFDOneSpec.plain.varTypes Tryz.prog) (ds ++ gs)).all (· ≤ reachBytes) = true)
    (hL : laidMet Tryz.prog Rows.fnFDOneRow.laid W) (hsh : W.ShapedOpen Tryz.prog) :
    Calls Tryz.prog 3 args W fun e W' => ∃ v, e = .returned v ∧ Rows.fnFDOneSpec.post enc Tryz.prog Tryz.f3 false true false false W args v W' := by
  have hsz : (DataW.weightsEach Tryz.prog (Tryz.f3.params.toList ++ Rows.fnFDOneSpec.plain.varTypes Tryz.prog) (ds ++ gs)).all (· ≤ reachBytes) = true := hsz0
  have hval : ∀ (j : Nat) t v, Tryz.f3.params[j]? = some t → args[j]? = some v → Value.okWide Tryz.prog W .any base t v := hval0
  have hW' := hW
  obtain ⟨p, q, hA0, hV, rfl, hfz, hnd⟩ := hW
  have hA : DataW.TrodAll enc Tryz.prog W 0 (fun _ => true) true Tryz.f3.params.toList args.toList ds p := hA0
  rw [Tryz.params3] at hA hval hsz
  obtain ⟨v0, vs0, d0, ds0, p0, q0, hargs, rfl, rfl, h0, r0⟩ := trodAll_cons hA
  obtain ⟨v1, vs1, d1, ds1, p1, q1, rfl, rfl, rfl, h1, r1⟩ := trodAll_cons r0
  obtain ⟨v2, vs2, d2, ds2, p2, q2, rfl, rfl, rfl, h2, r2⟩ := trodAll_cons r1
  obtain ⟨rfl, rfl, rfl⟩ := trodAll_nil r2
  obtain rfl : args = #[v0, v1, v2] := by cases args; simp_all
  obtain ⟨rfl, rfl⟩ := trodVars_none hV
  obtain ⟨a0, rfl, rfl, rfl, w0⟩ := open_int Tryz.underlying5 (hval 0 5 v0 rfl rfl) h0
  obtain ⟨a1, rfl, rfl, rfl, w1⟩ := open_int Tryz.underlying5 (hval 1 5 v1 rfl rfl) h1
  obtain ⟨a2, rfl, rfl, rfl, w2⟩ := open_int Tryz.underlying5 (hval 2 5 v2 rfl rfl) h2
  obtain ⟨c, rfl, hc⟩ := FDW.u8_nat w0
  obtain ⟨n, rfl, hn⟩ := FDW.u8_nat w1
  obtain ⟨b, rfl, hb⟩ := FDW.u8_nat w2
  clear hA0 hval0 hsz0 hsz
  have hg : FD.Glob W := FDW.glob hL
  refine (FD.law_ok c n b hc hn hb W hg).mono fun e W' ⟨he, bel⟩ => ?_
  subst he
  exact ⟨_, rfl, _, _, _, [], _, [], hW', trodAll_mk1 (shut_bool Tryz.underlying4 _), (trodAll_cons_mk (shut_int Tryz.underlying5 w0) (trodAll_cons_mk (shut_int Tryz.underlying5 w1) (trodAll_cons_mk (shut_int Tryz.underlying5 w2) trodAll_mk0))), rfl, bel.frame _, fun h => by cases h⟩

noncomputable def world (os : Os) : World := FDW.laidWorld os
def wargs : Array Value := #[.int .u8 0, .int .u8 0, .int .u8 0]
theorem laid_met (os : Os) : laidMet Tryz.prog Rows.fnFDOneRow.laid ((world os).forCall (fun _ _ => 0) ⟨#[], wargs, []⟩).memory :=
  FDW.met os _

theorem lifted (os : Os) (started : os.Started) (H : Type) (enc : TypeId × Value → H) (F : Stop.Interp) :
    ReturnsInHanded {} Tryz.checked os 3 .any ((OpenSpec.ofChange Rows.fnFDOneSpec).preRow enc Tryz.prog Tryz.f3 Rows.fnFDOneRow.domain false Rows.fnFDOneRow.laid) (((OpenSpec.ofChange Rows.fnFDOneSpec).at F).post enc Tryz.prog Tryz.f3 false true false false) := by
  have hx : DataW.whole enc Tryz.prog ((world os).forCall (fun _ _ => 0) ⟨#[], wargs, []⟩).memory Tryz.f3.params.toList Rows.fnFDOneSpec.vars false wargs.toList 8 = some ([.lit (.int .u8 0), .lit (.int .u8 0), .lit (.int .u8 0)], [], []) := by kernel_rfl
  refine returnsInHanded_of_row (C := Tryz.checked) (s := OpenSpec.ofChange Rows.fnFDOneSpec) own started (by kernel_rfl) Tryz.func3
    (witness_row_atRef (enc := enc) (C := Tryz.checked) false (world os) wargs rfl (by kernel_rfl) (by kernel_rfl) (by kernel_rfl)
      (OpenSpec.preRow_of_cond 8 hx (by kernel_rfl) (fun k hk => by cases hk) (by kernel_rfl) (laid_met os))) ?_
  intro W base args ds gs before hval hW _ _ hsz hL hsh _
  exact contract H enc W base args ds gs before hval hW hsz hL hsh

theorem said : Rows.FnFDOneSaid :=
  OpenClaim.holds_of_cond 3 Tryz.f3 rfl rfl rfl rfl rfl rfl rfl ⟨rfl, rfl, rfl, rfl, rfl⟩ rfl rfl rfl rfl rfl (by kernel_rfl) Tryz.func3 (by kernel_rfl)
    (of_decide_eq_true (by kernel_rfl)) (by unfold Func.isWrapper; first | (rw [if_pos (by decide +kernel)]; kernel_rfl) | (rw [if_neg (by decide +kernel)]; exact ⟨rfl, rfl⟩))
    (fun os started H enc _ F => by rw [OpenClaim.pre_eq_preRow]; exact lifted os started H enc F)

theorem plain (f : FuncId) (fn : Func) (hf : Tryz.pinned.checked.prog.funcNamed "given.example/pub-abaculus/laws.FnFDOne" = some f) (hfn : Tryz.pinned.checked.prog.funcs[f]? = some fn) :
    false = Tryz.pinned.checked.prog.looks [] ∧ ∀ (j : Nat) t, fn.params[j]? = some t → Tryz.pinned.checked.prog.wantsStandIn t = false := by
  obtain rfl : f = 3 := Option.some.inj ((show Tryz.prog.funcNamed "given.example/pub-abaculus/laws.FnFDOne" = some 3 by kernel_rfl).symm.trans hf) |>.symm
  obtain rfl : fn = Tryz.f3 := (Option.some.inj (Tryz.func3.symm.trans hfn)).symm
  refine ⟨by kernel_rfl, fun j t ht => ?_⟩
  rw [Tryz.params3] at ht
  have hm : t ∈ [5, 5, 5] := by simpa using Array.mem_of_getElem? ht
  have hall : ([5, 5, 5].all fun u => !Tryz.prog.wantsStandIn u) = true := by kernel_rfl
  exact (show Tryz.prog.wantsStandIn t = false by simpa using List.all_eq_true.1 hall t hm)

theorem card : Rows.FnFDOneCardSaid :=
  Claim7.holds_tied_plain_at .later [] _ _ _ _ said (fun _ h => by cases h) (by kernel_rfl) (fun _ h => by cases h) fnFDOne_row_tie rfl ⟨rfl, rfl⟩ (by kernel_rfl) rfl plain (by kernel_rfl)
end Go.Proofs.YtoeapddecmhlkaaGreatDoor.fnFDOne
namespace Go.Proofs.YtoeapddecmhlkaaGreatDoor
/-- The card, under a short name, for the claim. -/
theorem fnFDOneCard_holds : Rows.FnFDOneCardSaid := fnFDOne.card
end Go.Proofs.YtoeapddecmhlkaaGreatDoor
