/-
  The row and the card of laws.FnTXSoundex: out of the contract of the law's text and of the plain law. No condition.
-/
import Derived.Test.YthicaehcoingeaaDoorCards
import Derived.Test.YthicaehcoingeaaDoorTie
import Derived.Test.YthicaehcoingeaaDoorRows
import Derived.Test.YthicaehcoingeaaDoorPTS1
import Derived.Test.YthicaehcoingeaaDoorPureFnTXSoundex
import Derived.WalkKit
import Derived.ProofKit
import Derived.OpenShut
import Derived.ShutString
import Derived.ChangeOld
import Derived.Below
import Derived.SizedLaws
import Derived.Test.YthicaehcoingeaaDoorWSized
import Derived.OpenVars
import Derived.ChangeVars
import Derived.Deep.DeepHandedRow
import Derived.Lib.LaidTab
import Derived.Lib.SmallJoins
import Derived.Test.YthicaehcoingeaaDoorSxW
namespace Go.Proofs.YthicaehcoingeaaDoor.fnTXSoundex
open Go.ChangeShapes Go.WideShapes Go.ChangeAt Go.RowKit Go.Joins
open Go.ChangeMaps (open_string shut_string)
set_option linter.unusedVariables false
set_option maxRecDepth 100000
theorem own : ownKnob Tryd.prog.godebug = none := by kernel_rfl
theorem laidOut : laidOutB Tryd.prog = true := by kernel_rfl
def IsRow (k : IntKind) (w : World) (a : Option Addr) (len cap : Nat) (zs : List Int) : Prop :=
  (a = none ∧ len = 0 ∧ cap = 0 ∧ zs = []) ∨
  ∃ x, a = some x ∧ len ≤ cap ∧ cap ≤ maxLen ∧ zs.length = cap ∧ (∀ i, i < zs.length → w.cell? (x.add i) = some (.int k (zs.getD i 0))) ∧ ∀ n ∈ zs, (Lit.int k n).wf = true

theorem contract (H : Type) (enc : TypeId × Value → H) (W : World) (base : Nat) (args : Array Value) (ds gs : List (DataW H)) (before : List MemPlace)
    (hval0 : ∀ (j : Nat) t v, Tryd.f7.params[j]? = some t → args[j]? = some v → Value.okWide Tryd.prog W .any base t v)
    (hW : DataW.Whole enc Tryd.prog Tryd.f7.params.toList Rows.fnTXSoundexSpec.vars false W args.toList ds gs before)
    (hsz0 : (DataW.weightsEach Tryd.prog (Tryd.f7.params.toList ++ Rows.fnTXSoundexSpec.plain.varTypes Tryd.prog) (ds ++ gs)).all (· ≤ reachBytes) = true)
    (hL : laidMet Tryd.prog Rows.fnTXSoundexRow.laid W) (hsh : W.ShapedOpen Tryd.prog) :
    Calls Tryd.prog 7 args W fun e W' => ∃ v, e = .returned v ∧ Rows.fnTXSoundexSpec.post enc Tryd.prog Tryd.f7 false true false false W args v W' := by
  have hsz : (DataW.weightsEach Tryd.prog (Tryd.f7.params.toList ++ Rows.fnTXSoundexSpec.plain.varTypes Tryd.prog) (ds ++ gs)).all (· ≤ reachBytes) = true := hsz0
  have hval : ∀ (j : Nat) t v, Tryd.f7.params[j]? = some t → args[j]? = some v → Value.okWide Tryd.prog W .any base t v := hval0
  have hW' := hW
  obtain ⟨p, q, hA0, hV, rfl, hfz, hnd⟩ := hW
  have hA : DataW.TrodAll enc Tryd.prog W 0 (fun _ => true) true Tryd.f7.params.toList args.toList ds p := hA0
  rw [Tryd.params7] at hA hval hsz
  obtain ⟨v0, vs0, d0, ds0, p0, q0, hargs, rfl, rfl, h0, r0⟩ := trodAll_cons hA
  obtain ⟨rfl, rfl, rfl⟩ := trodAll_nil r0
  obtain rfl : args = #[v0] := by cases args; simp_all
  obtain ⟨rfl, rfl⟩ := trodVars_none hV
  obtain ⟨a0, len0, cap0, rfl⟩ := okWide_slice Tryd.underlying23 (hval 0 23 v0 rfl rfl)
  have k0 := h0
  have lt0 : ∀ x ∈ p0, x.block < W.heap.size := by obtain ⟨m, hm⟩ := k0; exact DataW.trod_lt m _ _ _ hm
  obtain ⟨z0, w0⟩ : ∃ zs, IsRow .u8 W a0 len0 cap0 zs := by
    obtain ⟨fuel, hf⟩ := h0
    rcases open_ints Tryd.underlying23 Tryd.underlying5 (by kernel_rfl) hf with ⟨hcs, _⟩ | ⟨x, l, c, zs, hcs, _, hl, hm, hz, _, hcell, hwz⟩
    · simp [Value.cells] at hcs
      obtain ⟨rfl, rfl, rfl⟩ := hcs
      exact ⟨[], .inl ⟨rfl, rfl, rfl, rfl⟩⟩
    · simp [Value.cells] at hcs
      obtain ⟨rfl, rfl, rfl⟩ := hcs
      exact ⟨zs, .inr ⟨_, rfl, hl, hm, by simpa using hz, hcell, hwz⟩⟩
  have y0 : len0 * 1 ≤ 140737488351232 := Go.Proofs.YthicaehcoingeaaDoorW.PrintWords.sized_ints hsz (j := 0) (t := 23) rfl rfl Tryd.underlying23 Tryd.underlying5 (by kernel_rfl) (by kernel_rfl) h0
  clear hA0 hval0 hsz0 hsz
  have hg : PTS.Glob W := by
    obtain ⟨ps, ⟨g0, t0, cs0, f0, p0, q0, hg0, ht0, hv0, hd0, ⟨g1, t1, cs1, f1, p1, q1, hg1, ht1, hv1, hd1, _, _⟩, _⟩, _⟩ := hL
    obtain rfl := Option.some.inj ((show Tryd.prog.globalNamed "unicode.properties" = some 3 by kernel_rfl).symm.trans hg1)
    obtain rfl := Option.some.inj ((show (Tryd.prog.globals[3]?).map (·.type) = some 148 by kernel_rfl).symm.trans ht1)
    have hd2 : DataW.trod (fun _ => ()) Tryd.prog W 0 (fun _ => true) false f1 148 cs1.toList = some (Lib.tabData .u8 Lib.propertiesTab, p1) := by rw [hd1]; kernel_rfl
    unfold PTS.Glob Lib.TabIs
    rw [hv1, ← Lib.cells_of_tab (n := 256) Tryd.underlying148 Tryd.underlying5 (by kernel_rfl) (by kernel_rfl) hd2]
  refine (PTS.laws_FnTXSoundex.walk Pure.FnTXSoundex a0 len0 cap0 z0 W hg w0 y0).mono fun e W' ⟨he, bel⟩ => ?_
  subst he
  exact ⟨_, rfl, _, _, _, [], _, [], hW', trodAll_mk1 (shut_bool Tryd.underlying4 _), (trodAll_cons_mk (Below.trod laidOut (by kernel_rfl) (of_decide_eq_true (by kernel_rfl)) k0 bel lt0) trodAll_mk0), rfl, bel.frame _, fun h => by cases h⟩

noncomputable def world (os : Os) : World := SxW.laidWorld os
def wargs : Array Value := #[.slice none 0 0]
theorem laid_met (os : Os) : laidMet Tryd.prog Rows.fnTXSoundexRow.laid ((world os).forCall (fun _ _ => 0) ⟨#[], wargs, []⟩).memory :=
  SxW.laid_met os _

theorem lifted (os : Os) (started : os.Started) (H : Type) (enc : TypeId × Value → H) (F : Stop.Interp) :
    ReturnsInHanded {} Tryd.checked os 7 .any ((OpenSpec.ofChange Rows.fnTXSoundexSpec).preRow enc Tryd.prog Tryd.f7 Rows.fnTXSoundexRow.domain false Rows.fnTXSoundexRow.laid) (((OpenSpec.ofChange Rows.fnTXSoundexSpec).at F).post enc Tryd.prog Tryd.f7 false true false false) := by
  have hx : DataW.whole enc Tryd.prog ((world os).forCall (fun _ _ => 0) ⟨#[], wargs, []⟩).memory Tryd.f7.params.toList Rows.fnTXSoundexSpec.vars false wargs.toList 8 = some ([.nil], [], []) := by kernel_rfl
  refine returnsInHanded_of_row (C := Tryd.checked) (s := OpenSpec.ofChange Rows.fnTXSoundexSpec) own started (by kernel_rfl) Tryd.func7
    (witness_row_atRef (enc := enc) (C := Tryd.checked) false (world os) wargs rfl (by kernel_rfl) (by kernel_rfl) (by kernel_rfl)
      (OpenSpec.preRow_of_cond 8 hx (by kernel_rfl) (fun k hk => by cases hk) (by kernel_rfl) (laid_met os))) ?_
  intro W base args ds gs before hval hW _ _ hsz hL hsh _
  exact contract H enc W base args ds gs before hval hW hsz hL hsh

theorem said : Rows.FnTXSoundexSaid :=
  OpenClaim.holds_of_cond 7 Tryd.f7 rfl rfl rfl rfl rfl rfl rfl ⟨rfl, rfl, rfl, rfl, rfl⟩ rfl rfl rfl rfl rfl (by kernel_rfl) Tryd.func7 (by kernel_rfl)
    (of_decide_eq_true (by kernel_rfl)) (by unfold Func.isWrapper; first | (rw [if_pos (by decide +kernel)]; kernel_rfl) | (rw [if_neg (by decide +kernel)]; exact ⟨rfl, rfl⟩))
    (fun os started H enc _ F => by rw [OpenClaim.pre_eq_preRow]; exact lifted os started H enc F)

theorem plain (f : FuncId) (fn : Func) (hf : Tryd.pinned.checked.prog.funcNamed "given.example/pub-abaculus/laws.FnTXSoundex" = some f) (hfn : Tryd.pinned.checked.prog.funcs[f]? = some fn) :
    true = Tryd.pinned.checked.prog.looks [] ∧ ∀ (j : Nat) t, fn.params[j]? = some t → Tryd.pinned.checked.prog.wantsStandIn t = false := by
  obtain rfl : f = 7 := Option.some.inj ((show Tryd.prog.funcNamed "given.example/pub-abaculus/laws.FnTXSoundex" = some 7 by kernel_rfl).symm.trans hf) |>.symm
  obtain rfl : fn = Tryd.f7 := (Option.some.inj (Tryd.func7.symm.trans hfn)).symm
  refine ⟨by kernel_rfl, fun j t ht => ?_⟩
  rw [Tryd.params7] at ht
  have hm : t ∈ [23] := by simpa using Array.mem_of_getElem? ht
  have hall : ([23].all fun u => !Tryd.prog.wantsStandIn u) = true := by kernel_rfl
  exact (show Tryd.prog.wantsStandIn t = false by simpa using List.all_eq_true.1 hall t hm)

theorem card : Rows.FnTXSoundexCardSaid :=
  Claim7.holds_tied_plain_at .later [] _ _ _ _ said (fun _ h => by cases h) (by kernel_rfl) (fun _ h => by cases h) fnTXSoundex_row_tie rfl ⟨rfl, rfl⟩ (by kernel_rfl) rfl plain (by kernel_rfl)
end Go.Proofs.YthicaehcoingeaaDoor.fnTXSoundex
namespace Go.Proofs.YthicaehcoingeaaDoor
/-- The card, under a short name, for the claim. -/
theorem fnTXSoundexCard_holds : Rows.FnTXSoundexCardSaid := fnTXSoundex.card
end Go.Proofs.YthicaehcoingeaaDoor
