/-
  The row and the card of laws.FnRGUnion: out of the contract of the law's text and of the plain law.
-/
import Derived.Test.YtlcoodjkolponaaDoorCards
import Derived.Test.YtlcoodjkolponaaDoorTie
import Derived.Test.YtlcoodjkolponaaDoorRVp
import Derived.WalkKit
import Derived.ProofKit
import Derived.OpenShut
import Derived.OpenVars
import Derived.ChangeVars
import Derived.Deep.DeepHandedRow
import Derived.Lib.LaidTab
import Derived.Lib.SmallJoins
namespace Go.Proofs.YtlcoodjkolponaaDoor.fnRGUnion
open Go.ChangeShapes Go.WideShapes Go.ChangeAt Go.RowKit Go.Joins
set_option linter.unusedVariables false
set_option maxRecDepth 100000
theorem own : ownKnob Tryd.prog.godebug = none := by kernel_rfl
theorem laidOut : laidOutB Tryd.prog = true := by kernel_rfl
theorem bounds {n : Int} (h : (Lit.int .i64 n).wf = true) : -9223372036854775808 ≤ n ∧ n ≤ 9223372036854775807 := by
  simp only [Lit.wf, Bool.and_eq_true, decide_eq_true_eq] at h
  have h1 : IntKind.i64.min = -9223372036854775808 := by decide
  have h2 : IntKind.i64.max = 9223372036854775807 := by decide
  omega

/-- One argument opened: a struct of two structs of two numbers. -/
theorem open_col {H : Type} {enc : TypeId × Value → H} {w : World} {base b0 : Nat} {spare : Nat → Bool} {held : Bool} {v : Value} {d : DataW H} {p : List MemPlace}
    (hv : Value.okWide Tryd.prog w .any b0 44 v) (h : DataW.Trod enc Tryd.prog w base spare held 44 v d p) :
    ∃ a b c e : Int, v = .agg #[.int .i64 a, .int .i64 b, .int .i64 c, .int .i64 e] ∧ PRU.I64 a ∧ PRU.I64 b ∧ PRU.I64 c ∧ PRU.I64 e := by
  obtain ⟨cs, rfl, hsz⟩ := okWide_struct Tryd.underlying44 hv
  obtain ⟨c0, c1, c2, c3, rfl⟩ := array4 (hsz.trans (show Tryd.prog.cellsOf 44 = 4 by kernel_rfl))
  obtain ⟨fuel, hf⟩ := h
  obtain ⟨y0, y1, n, hx, _, h0, h1⟩ := trod_struct2 Tryd.underlying44 hf
  have z23 : Tryd.prog.cellsOf 23 = 2 := by kernel_rfl
  have z3 : Tryd.prog.cellsOf 3 = 1 := by kernel_rfl
  have z2 : Tryd.prog.cellsOf 2 = 1 := by kernel_rfl
  have g0 : DataW.trod enc Tryd.prog w base spare held n 23 [c0, c1] = some y0 := by simpa [Value.cells, z23] using h0
  have g1 : DataW.trod enc Tryd.prog w base spare held n 23 [c2, c3] = some y1 := by simpa [Value.cells, z23] using h1
  obtain ⟨u0, u1, m, _, _, i0, i1⟩ := trod_struct2 Tryd.underlying23 g0
  obtain ⟨u2, u3, m2, _, _, i2, i3⟩ := trod_struct2 Tryd.underlying23 g1
  obtain ⟨a, e0, _, w0⟩ := DataW.trod_int Tryd.underlying3 i0
  obtain ⟨b, e1, _, w1⟩ := DataW.trod_int Tryd.underlying2 i1
  obtain ⟨c, e2, _, w2⟩ := DataW.trod_int Tryd.underlying3 i2
  obtain ⟨e, e3, _, w3⟩ := DataW.trod_int Tryd.underlying2 i3
  simp [z3, z2] at e0 e1 e2 e3
  subst e0; subst e1; subst e2; subst e3
  exact ⟨a, b, c, e, rfl, bounds w0, bounds w1, bounds w2, bounds w3⟩

theorem contract (H : Type) (enc : TypeId × Value → H) (W : World) (base : Nat) (args : Array Value) (ds gs : List (DataW H)) (before : List MemPlace)
    (hval0 : ∀ (j : Nat) t v, Tryd.f6.params[j]? = some t → args[j]? = some v → Value.okWide Tryd.prog W .any base t v)
    (hW : DataW.Whole enc Tryd.prog Tryd.f6.params.toList Rows.fnRGUnionSpec.vars false W args.toList ds gs before) :
    Calls Tryd.prog 6 args W fun e W' => ∃ v, e = .returned v ∧ Rows.fnRGUnionSpec.post enc Tryd.prog Tryd.f6 false true false false W args v W' := by
  have hval : ∀ (j : Nat) t v, Tryd.f6.params[j]? = some t → args[j]? = some v → Value.okWide Tryd.prog W .any base t v := hval0
  have hW' := hW
  obtain ⟨p, q, hA0, hV, rfl, hfz, hnd⟩ := hW
  have hA : DataW.TrodAll enc Tryd.prog W 0 (fun _ => true) true Tryd.f6.params.toList args.toList ds p := hA0
  rw [Tryd.params6] at hA hval
  obtain ⟨v0, vs0, d0, ds0, p0, q0, hargs, rfl, rfl, h0, r0⟩ := trodAll_cons hA
  obtain ⟨v1, vs1, d1, ds1, p1, q1, rfl, rfl, rfl, h1, r1⟩ := trodAll_cons r0
  obtain ⟨rfl, rfl, rfl⟩ := trodAll_nil r1
  obtain rfl : args = #[v0, v1] := by cases args; simp_all
  have lt0 : ∀ x ∈ p0, x.block < W.heap.size := by have k := h0; obtain ⟨m, hm⟩ := k; exact DataW.trod_lt m _ _ _ hm
  have lt1 : ∀ x ∈ p1, x.block < W.heap.size := by have k := h1; obtain ⟨m, hm⟩ := k; exact DataW.trod_lt m _ _ _ hm
  obtain ⟨g, tg, cs, fuel, dg, pg, rfl, _⟩ := trodVars_one hV
  obtain ⟨a, b, c, d, rfl, wa, wb, wc, wd⟩ := open_col (hval 0 44 v0 rfl rfl) h0
  obtain ⟨a', b', c', d', rfl, wa', wb', wc', wd'⟩ := open_col (hval 1 44 v1 rfl rfl) h1
  clear hA0 hval0
  refine (PRU.laws_FnRGUnion.walkU a b c d a' b' c' d' W wa wb wc wd wa' wb' wc' wd').mono fun e W' ⟨he, bel⟩ => ?_
  subst he
  exact ⟨_, rfl, _, _, _, [], _, _, hW', trodAll_mk1 (shut_bool Tryd.underlying4 _),
    (trodAll_cons_mk (Below.trod laidOut (by kernel_rfl) (of_decide_eq_true (by kernel_rfl)) h0 bel lt0) (trodAll_cons_mk (Below.trod laidOut (by kernel_rfl) (of_decide_eq_true (by kernel_rfl)) h1 bel lt1) trodAll_mk0)),
    Below.trodVars laidOut bel (by kernel_rfl) hV, bel.frame _, fun h => by cases h⟩

noncomputable def world (os : Os) : World := World.holding Tryd.prog os ⟨#[], #[], []⟩
def wargs : Array Value := #[.agg #[.int .i64 0, .int .i64 0, .int .i64 0, .int .i64 0], .agg #[.int .i64 0, .int .i64 0, .int .i64 0, .int .i64 0]]
theorem laid_met (os : Os) : laidMet Tryd.prog Rows.fnRGUnionRow.laid ((world os).forCall (fun _ _ => 0) ⟨#[], wargs, []⟩).memory :=
  laidMet_of_run' 8 (by kernel_rfl) (by kernel_rfl)
theorem reads (os : Os) {H : Type} (enc : TypeId × Value → H) : ∃ ds gs places, DataW.whole enc Tryd.prog ((world os).forCall (fun _ _ => 0) ⟨#[], wargs, []⟩).memory Tryd.f6.params.toList Rows.fnRGUnionSpec.vars false wargs.toList 8 = some (ds, gs, places) :=
  ⟨[.agg [.agg [.lit (.int .i64 0), .lit (.int .i64 0)], .agg [.lit (.int .i64 0), .lit (.int .i64 0)]], .agg [.agg [.lit (.int .i64 0), .lit (.int .i64 0)], .agg [.lit (.int .i64 0), .lit (.int .i64 0)]]], [.agg []], [], by kernel_rfl⟩

theorem lifted (os : Os) (started : os.Started) (H : Type) (enc : TypeId × Value → H) (F : Stop.Interp) :
    ReturnsInHanded {} Tryd.checked os 6 .any ((OpenSpec.ofChange Rows.fnRGUnionSpec).preRow enc Tryd.prog Tryd.f6 Rows.fnRGUnionRow.domain false Rows.fnRGUnionRow.laid) (((OpenSpec.ofChange Rows.fnRGUnionSpec).at F).post enc Tryd.prog Tryd.f6 false true false false) := by
  have hx : DataW.whole enc Tryd.prog ((world os).forCall (fun _ _ => 0) ⟨#[], wargs, []⟩).memory Tryd.f6.params.toList Rows.fnRGUnionSpec.vars false wargs.toList 8 = some ([.agg [.agg [.lit (.int .i64 0), .lit (.int .i64 0)], .agg [.lit (.int .i64 0), .lit (.int .i64 0)]], .agg [.agg [.lit (.int .i64 0), .lit (.int .i64 0)], .agg [.lit (.int .i64 0), .lit (.int .i64 0)]]], [.agg []], []) := by kernel_rfl
  refine returnsInHanded_of_row (C := Tryd.checked) (s := OpenSpec.ofChange Rows.fnRGUnionSpec) own started (by kernel_rfl) Tryd.func6
    (witness_row_at (enc := enc) (C := Tryd.checked) false (world os) wargs rfl (by kernel_rfl) (by kernel_rfl) (by kernel_rfl)
      (OpenSpec.preRow_of_cond 8 hx (by kernel_rfl) (fun k hk => by cases hk) (by kernel_rfl) (laid_met os))) ?_
  intro W base args ds gs before hval hW _ _ _ _ _ _
  exact contract H enc W base args ds gs before hval hW

theorem said : Rows.FnRGUnionSaid :=
  OpenClaim.holds_of_cond 6 Tryd.f6 rfl rfl rfl rfl rfl rfl rfl ⟨rfl, rfl, rfl, rfl, rfl⟩ rfl rfl rfl rfl rfl (by kernel_rfl) Tryd.func6 (by kernel_rfl)
    (of_decide_eq_true (by kernel_rfl)) (by unfold Func.isWrapper; first | (rw [if_pos (by decide +kernel)]; kernel_rfl) | (rw [if_neg (by decide +kernel)]; exact ⟨rfl, rfl⟩))
    (fun os started H enc _ F => by rw [OpenClaim.pre_eq_preRow]; exact lifted os started H enc F)

theorem plain (f : FuncId) (fn : Func) (hf : Tryd.pinned.checked.prog.funcNamed "given.example/pub-abaculus/laws.FnRGUnion" = some f) (hfn : Tryd.pinned.checked.prog.funcs[f]? = some fn) :
    true = Tryd.pinned.checked.prog.looks [] ∧ ∀ (j : Nat) t, fn.params[j]? = some t → Tryd.pinned.checked.prog.wantsStandIn t = false := by
  obtain rfl : f = 6 := Option.some.inj ((show Tryd.prog.funcNamed "given.example/pub-abaculus/laws.FnRGUnion" = some 6 by kernel_rfl).symm.trans hf) |>.symm
  obtain rfl : fn = Tryd.f6 := (Option.some.inj (Tryd.func6.symm.trans hfn)).symm
  refine ⟨by kernel_rfl, fun j t ht => ?_⟩
  rw [Tryd.params6] at ht
  have hm : t ∈ [44, 44] := by simpa using Array.mem_of_getElem? ht
  have hall : ([44, 44].all fun u => !Tryd.prog.wantsStandIn u) = true := by kernel_rfl
  exact (show Tryd.prog.wantsStandIn t = false by simpa using List.all_eq_true.1 hall t hm)

theorem card : Rows.FnRGUnionCardSaid :=
  Claim7.holds_tied_plain_at .later [] _ _ _ _ said (fun _ h => by cases h) (by kernel_rfl) (fun _ h => by cases h) fnRGUnion_row_tie rfl ⟨rfl, rfl⟩ (by kernel_rfl) rfl plain (by kernel_rfl)
end Go.Proofs.YtlcoodjkolponaaDoor.fnRGUnion
namespace Go.Proofs.YtlcoodjkolponaaDoor
/-- The card, under a short name, for the claim. -/
theorem fnRGUnionCard_holds : Rows.FnRGUnionCardSaid := fnRGUnion.card
end Go.Proofs.YtlcoodjkolponaaDoor
