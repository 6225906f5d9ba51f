/-
  The row and the card of laws.FnTXConv: out of the contract of the law's text and of the plain law. No condition.
-/
import Derived.Test.YthicaehcoingeaaDoorCards
import Derived.Test.YthicaehcoingeaaDoorTie
import Derived.Test.YthicaehcoingeaaDoorRows
import Derived.Test.YthicaehcoingeaaDoorPTV1
import Derived.Test.YthicaehcoingeaaDoorPureFnTXConv
import Derived.WalkKit
import Derived.ProofKit
import Derived.OpenShut
import Derived.ShutString
import Derived.ChangeOld
import Derived.Below
import Derived.SizedLaws
import Derived.OpenVars
import Derived.ChangeVars
import Derived.Deep.DeepHandedRow
import Derived.Lib.LaidTab
import Derived.Lib.SmallJoins
import Derived.Test.YthicaehcoingeaaDoorCvW
namespace Go.Proofs.YthicaehcoingeaaDoor.fnTXConv
open Go.ChangeShapes Go.WideShapes Go.ChangeAt Go.RowKit Go.Joins
open Go.ChangeMaps (open_string shut_string)
set_option linter.unusedVariables false
set_option maxRecDepth 100000
theorem own : ownKnob Tryd.prog.godebug = none := by kernel_rfl
theorem laidOut : laidOutB Tryd.prog = true := by kernel_rfl

theorem contract (H : Type) (enc : TypeId × Value → H) (W : World) (base : Nat) (args : Array Value) (ds gs : List (DataW H)) (before : List MemPlace)
    (hval0 : ∀ (j : Nat) t v, Tryd.f8.params[j]? = some t → args[j]? = some v → Value.okWide Tryd.prog W .any base t v)
    (hW : DataW.Whole enc Tryd.prog Tryd.f8.params.toList Rows.fnTXConvSpec.vars false W args.toList ds gs before)
    (hsz0 : (DataW.weightsEach Tryd.prog (Tryd.f8.params.toList ++ Rows.fnTXConvSpec.plain.varTypes Tryd.prog) (ds ++ gs)).all (· ≤ reachBytes) = true)
    (hL : laidMet Tryd.prog Rows.fnTXConvRow.laid W) (hsh : W.ShapedOpen Tryd.prog) :
    Calls Tryd.prog 8 args W fun e W' => ∃ v, e = .returned v ∧ Rows.fnTXConvSpec.post enc Tryd.prog Tryd.f8 false true false false W args v W' := by
  have hsz : (DataW.weightsEach Tryd.prog (Tryd.f8.params.toList ++ Rows.fnTXConvSpec.plain.varTypes Tryd.prog) (ds ++ gs)).all (· ≤ reachBytes) = true := hsz0
  have hval : ∀ (j : Nat) t v, Tryd.f8.params[j]? = some t → args[j]? = some v → Value.okWide Tryd.prog W .any base t v := hval0
  have hW' := hW
  obtain ⟨p, q, hA0, hV, rfl, hfz, hnd⟩ := hW
  have hA : DataW.TrodAll enc Tryd.prog W 0 (fun _ => true) true Tryd.f8.params.toList args.toList ds p := hA0
  rw [Tryd.params8] at hA hval hsz
  obtain ⟨v0, vs0, d0, ds0, p0, q0, hargs, rfl, rfl, h0, r0⟩ := trodAll_cons hA
  obtain ⟨v1, vs1, d1, ds1, p1, q1, rfl, rfl, rfl, h1, r1⟩ := trodAll_cons r0
  obtain ⟨v2, vs2, d2, ds2, p2, q2, rfl, rfl, rfl, h2, r2⟩ := trodAll_cons r1
  obtain ⟨rfl, rfl, rfl⟩ := trodAll_nil r2
  obtain rfl : args = #[v0, v1, v2] := by cases args; simp_all
  obtain ⟨rfl, rfl⟩ := trodVars_none hV
  obtain ⟨a0, rfl, rfl, rfl, w0⟩ := open_int Tryd.underlying22 (hval 0 22 v0 rfl rfl) h0
  obtain ⟨a1, rfl, rfl, rfl, w1⟩ := open_int Tryd.underlying5 (hval 1 5 v1 rfl rfl) h1
  obtain ⟨a2, rfl, rfl, rfl, w2⟩ := open_int Tryd.underlying5 (hval 2 5 v2 rfl rfl) h2
  clear hA0 hval0 hsz0 hsz
  have hg : PTV.Glob W := by
    obtain ⟨ps, ⟨g0, t0, cs0, f0, p0, q0, hg0, ht0, hv0, hd0, ⟨g1, t1, cs1, f1, p1, q1, hg1, ht1, hv1, hd1, ⟨g2, t2, cs2, f2, p2, q2, hg2, ht2, hv2, hd2, _, _⟩, _⟩, _⟩, _⟩ := hL
    obtain rfl := Option.some.inj ((show Tryd.prog.globalNamed "math/bits.deBruijn64tab" = some 15 by kernel_rfl).symm.trans hg1)
    obtain rfl := Option.some.inj ((show (Tryd.prog.globals[15]?).map (·.type) = some 215 by kernel_rfl).symm.trans ht1)
    have hd1' : DataW.trod (fun _ => ()) Tryd.prog W 0 (fun _ => true) false f1 215 cs1.toList = some (Lib.tabData .u8 PTV.bruijnL, p1) := by rw [hd1]; kernel_rfl
    obtain rfl := Option.some.inj ((show Tryd.prog.globalNamed "internal/strconv.uint64pow10" = some 11 by kernel_rfl).symm.trans hg2)
    obtain rfl := Option.some.inj ((show (Tryd.prog.globals[11]?).map (·.type) = some 201 by kernel_rfl).symm.trans ht2)
    have hd2' : DataW.trod (fun _ => ()) Tryd.prog W 0 (fun _ => true) false f2 201 cs2.toList = some (Lib.tabData .u64 Lib.pow10Tab, p2) := by rw [hd2]; kernel_rfl
    exact CvW.tabs_of_vars hv1 (Lib.cells_of_tab (n := 64) Tryd.underlying215 Tryd.underlying5 (by kernel_rfl) (by kernel_rfl) hd1') hv2 (Lib.cells_of_tab (n := 20) Tryd.underlying201 Tryd.underlying22 (by kernel_rfl) (by kernel_rfl) hd2')
  refine (PTV.laws_FnTXConv.walk Pure.FnTXConv a0 a1 a2 W hg w0 w1 w2).mono fun e W' ⟨he, bel⟩ => ?_
  subst he
  exact ⟨_, rfl, _, _, _, [], _, [], hW', trodAll_mk1 (shut_bool Tryd.underlying4 _), (trodAll_cons_mk (shut_int Tryd.underlying22 w0) (trodAll_cons_mk (shut_int Tryd.underlying5 w1) (trodAll_cons_mk (shut_int Tryd.underlying5 w2) trodAll_mk0))), rfl, bel.frame _, fun h => by cases h⟩

noncomputable def world (os : Os) : World := CvW.laidWorld os
def wargs : Array Value := #[.int .u64 0, .int .u8 0, .int .u8 0]
theorem laid_met (os : Os) : laidMet Tryd.prog Rows.fnTXConvRow.laid ((world os).forCall (fun _ _ => 0) ⟨#[], wargs, []⟩).memory :=
  CvW.laid_met os _

theorem lifted (os : Os) (started : os.Started) (H : Type) (enc : TypeId × Value → H) (F : Stop.Interp) :
    ReturnsInHanded {} Tryd.checked os 8 .any ((OpenSpec.ofChange Rows.fnTXConvSpec).preRow enc Tryd.prog Tryd.f8 Rows.fnTXConvRow.domain false Rows.fnTXConvRow.laid) (((OpenSpec.ofChange Rows.fnTXConvSpec).at F).post enc Tryd.prog Tryd.f8 false true false false) := by
  have hx : DataW.whole enc Tryd.prog ((world os).forCall (fun _ _ => 0) ⟨#[], wargs, []⟩).memory Tryd.f8.params.toList Rows.fnTXConvSpec.vars false wargs.toList 8 = some ([.lit (.int .u64 0), .lit (.int .u8 0), .lit (.int .u8 0)], [], []) := by kernel_rfl
  refine returnsInHanded_of_row (C := Tryd.checked) (s := OpenSpec.ofChange Rows.fnTXConvSpec) own started (by kernel_rfl) Tryd.func8
    (witness_row_atRef (enc := enc) (C := Tryd.checked) false (world os) wargs rfl (by kernel_rfl) (by kernel_rfl) (by kernel_rfl)
      (OpenSpec.preRow_of_cond 8 hx (by kernel_rfl) (fun k hk => by cases hk) (by kernel_rfl) (laid_met os))) ?_
  intro W base args ds gs before hval hW _ _ hsz hL hsh _
  exact contract H enc W base args ds gs before hval hW hsz hL hsh

theorem said : Rows.FnTXConvSaid :=
  OpenClaim.holds_of_cond 8 Tryd.f8 rfl rfl rfl rfl rfl rfl rfl ⟨rfl, rfl, rfl, rfl, rfl⟩ rfl rfl rfl rfl rfl (by kernel_rfl) Tryd.func8 (by kernel_rfl)
    (of_decide_eq_true (by kernel_rfl)) (by unfold Func.isWrapper; first | (rw [if_pos (by decide +kernel)]; kernel_rfl) | (rw [if_neg (by decide +kernel)]; exact ⟨rfl, rfl⟩))
    (fun os started H enc _ F => by rw [OpenClaim.pre_eq_preRow]; exact lifted os started H enc F)

theorem plain (f : FuncId) (fn : Func) (hf : Tryd.pinned.checked.prog.funcNamed "given.example/pub-abaculus/laws.FnTXConv" = some f) (hfn : Tryd.pinned.checked.prog.funcs[f]? = some fn) :
    true = Tryd.pinned.checked.prog.looks [] ∧ ∀ (j : Nat) t, fn.params[j]? = some t → Tryd.pinned.checked.prog.wantsStandIn t = false := by
  obtain rfl : f = 8 := Option.some.inj ((show Tryd.prog.funcNamed "given.example/pub-abaculus/laws.FnTXConv" = some 8 by kernel_rfl).symm.trans hf) |>.symm
  obtain rfl : fn = Tryd.f8 := (Option.some.inj (Tryd.func8.symm.trans hfn)).symm
  refine ⟨by kernel_rfl, fun j t ht => ?_⟩
  rw [Tryd.params8] at ht
  have hm : t ∈ [22, 5, 5] := by simpa using Array.mem_of_getElem? ht
  have hall : ([22, 5, 5].all fun u => !Tryd.prog.wantsStandIn u) = true := by kernel_rfl
  exact (show Tryd.prog.wantsStandIn t = false by simpa using List.all_eq_true.1 hall t hm)

theorem card : Rows.FnTXConvCardSaid :=
  Claim7.holds_tied_plain_at .later [] _ _ _ _ said (fun _ h => by cases h) (by kernel_rfl) (fun _ h => by cases h) fnTXConv_row_tie rfl ⟨rfl, rfl⟩ (by kernel_rfl) rfl plain (by kernel_rfl)
end Go.Proofs.YthicaehcoingeaaDoor.fnTXConv
namespace Go.Proofs.YthicaehcoingeaaDoor
/-- The card, under a short name, for the claim. -/
theorem fnTXConvCard_holds : Rows.FnTXConvCardSaid := fnTXConv.card
end Go.Proofs.YthicaehcoingeaaDoor
