/-
  NARROWER THAN 'FOR EVERY INPUT', by the rows' own cells (each row's printed sentence says how): FnRGCuts: laid · FnRRSorts: laid · FnRGAsks: laid · FnRGUnion: laid · FnRRMerges: laid · FnRRAsks: laid · FnRGSimplify: laid.
  DERIVED. THE GIVEN ROWS OF THIS SEAT. 7 by the template 'for every input the law returns true; each argument reads behind the call as it read before'; 0 by the template 'total and deterministic' (their statements: YtlcoodjkolponaaDoorTotals.lean).
  GIVEN WITH THE SEED: the statements are not yours to turn. If you find one false, say at which input.
  Laid BY PROGRAM, IN A SANDBOX (cutbox-rows.mjs): the forced cells as the released guide's own fill.sh prints them over the translation 55ae6a6e50f38c01… (all of the seat's roots in one cut). By AI agents, Wed Nov 11 2026. No macro, syntax, notation, axiom, sorry.
-/
import Derived.Test.YtlcoodjkolponaaDoorChecked
import GoSem.Claim
import GoSem.ClaimJoined
import GoSem.ClaimMapViews
import Derived.JoinedTies
import Derived.KernelRfl
namespace Go.Proofs.YtlcoodjkolponaaDoor
/- THE CELL 'sum', in the pinned program and in every row, IS THE sha256 OF THE DUMP (.gsa) THAT YtlcoodjkolponaaDoorProg.lean LOADS. Nothing in Lean hashes anything: it is a label: what it is worth is what the hold of that sum in a sandbox is worth. -/
noncomputable def Tryd.pinned : Pinned := { name := "ytlcoodjkolponaadoor", sum := "55ae6a6e50f38c012be1e72aae953d47c2f707ddceaa3c9e73402abef0741187", checked := Tryd.checked }
namespace Rows
def none {H : Type} : Left H := { results := [], args := [] }

/- WHAT THE LISTED PACKAGE-LEVEL VARIABLES READ AS WHEN THE CALL BEGINS. Each datum BY PROGRAM (the guide's laid-datum.mjs) off the statement by which the dump's own 'gosem.cut.vars' lays the variable. In a bare row this is a premise. The card (YtlcoodjkolponaaDoorCards.lean) ties it to the program's text. -/
def laid_given_example_pub_abaculus_impl_whole {H : Type} : DataW H := .agg []

/-- 'laws.FnRGCuts': WHATEVER THE INPUT: true; the input reads as it did. -/
def fnRGCutsSpec : ChangeSpec := { name := "fnRGCuts", vars := ["given.example/pub-abaculus/impl.whole"], fn := fun _ => fun
  | [d1, d2, d3, g1] => { results := [.lit (.bool true)], args := [d1, d2, d3], vars := [g1] }
  | _ => none }
def fnRGCutsRow : OpenClaim := { program := "ytlcoodjkolponaadoor", sum := "55ae6a6e50f38c012be1e72aae953d47c2f707ddceaa3c9e73402abef0741187", func := "given.example/pub-abaculus/laws.FnRGCuts", spec := "fnRGCuts", unfollowed := true, recurses := true, named := ["given.example/pub-abaculus/impl.whole"], apart := false, laid := [("given.example/pub-abaculus/impl.whole", laid_given_example_pub_abaculus_impl_whole)] }
def FnRGCutsSaid : Prop := fnRGCutsRow.holds Tryd.pinned (OpenSpec.ofChange fnRGCutsSpec)

/-- ITS FALSE NEIGHBOUR: 'it returns false'. Refute it at one input. -/
def fnRGCutsWrong : ChangeSpec := { name := "fnRGCuts", vars := ["given.example/pub-abaculus/impl.whole"], fn := fun _ => fun
  | [d1, d2, d3, g1] => { results := [.lit (.bool false)], args := [d1, d2, d3], vars := [g1] }
  | _ => none }
def FnRGCutsWrongFalsely : Prop := fnRGCutsRow.holds Tryd.pinned (OpenSpec.ofChange fnRGCutsWrong)

/-- 'laws.FnRRSorts': WHATEVER THE INPUT: true; the input reads as it did. -/
def fnRRSortsSpec : ChangeSpec := { name := "fnRRSorts", vars := ["given.example/pub-abaculus/impl.whole"], fn := fun _ => fun
  | [d1, d2, g1] => { results := [.lit (.bool true)], args := [d1, d2], vars := [g1] }
  | _ => none }
def fnRRSortsRow : OpenClaim := { program := "ytlcoodjkolponaadoor", sum := "55ae6a6e50f38c012be1e72aae953d47c2f707ddceaa3c9e73402abef0741187", func := "given.example/pub-abaculus/laws.FnRRSorts", spec := "fnRRSorts", inPlace := ["internal/reflectlite.ValueOf", "internal/reflectlite.Swapper", "(internal/reflectlite.Value).Len"], unfollowed := true, recurses := true, named := ["given.example/pub-abaculus/impl.whole"], apart := false, laid := [("given.example/pub-abaculus/impl.whole", laid_given_example_pub_abaculus_impl_whole)] }
def FnRRSortsSaid : Prop := fnRRSortsRow.holds Tryd.pinned (OpenSpec.ofChange fnRRSortsSpec)

/-- ITS FALSE NEIGHBOUR: 'it returns false'. Refute it at one input. -/
def fnRRSortsWrong : ChangeSpec := { name := "fnRRSorts", vars := ["given.example/pub-abaculus/impl.whole"], fn := fun _ => fun
  | [d1, d2, g1] => { results := [.lit (.bool false)], args := [d1, d2], vars := [g1] }
  | _ => none }
def FnRRSortsWrongFalsely : Prop := fnRRSortsRow.holds Tryd.pinned (OpenSpec.ofChange fnRRSortsWrong)

/-- 'laws.FnRGAsks': WHATEVER THE INPUT: true; the input reads as it did. -/
def fnRGAsksSpec : ChangeSpec := { name := "fnRGAsks", vars := ["given.example/pub-abaculus/impl.whole"], fn := fun _ => fun
  | [d1, d2, g1] => { results := [.lit (.bool true)], args := [d1, d2], vars := [g1] }
  | _ => none }
def fnRGAsksRow : OpenClaim := { program := "ytlcoodjkolponaadoor", sum := "55ae6a6e50f38c012be1e72aae953d47c2f707ddceaa3c9e73402abef0741187", func := "given.example/pub-abaculus/laws.FnRGAsks", spec := "fnRGAsks", unfollowed := true, recurses := true, named := ["given.example/pub-abaculus/impl.whole"], apart := false, laid := [("given.example/pub-abaculus/impl.whole", laid_given_example_pub_abaculus_impl_whole)] }
def FnRGAsksSaid : Prop := fnRGAsksRow.holds Tryd.pinned (OpenSpec.ofChange fnRGAsksSpec)

/-- ITS FALSE NEIGHBOUR: 'it returns false'. Refute it at one input. -/
def fnRGAsksWrong : ChangeSpec := { name := "fnRGAsks", vars := ["given.example/pub-abaculus/impl.whole"], fn := fun _ => fun
  | [d1, d2, g1] => { results := [.lit (.bool false)], args := [d1, d2], vars := [g1] }
  | _ => none }
def FnRGAsksWrongFalsely : Prop := fnRGAsksRow.holds Tryd.pinned (OpenSpec.ofChange fnRGAsksWrong)

/-- 'laws.FnRGUnion': WHATEVER THE INPUT: true; the input reads as it did. -/
def fnRGUnionSpec : ChangeSpec := { name := "fnRGUnion", vars := ["given.example/pub-abaculus/impl.whole"], fn := fun _ => fun
  | [d1, d2, g1] => { results := [.lit (.bool true)], args := [d1, d2], vars := [g1] }
  | _ => none }
def fnRGUnionRow : OpenClaim := { program := "ytlcoodjkolponaadoor", sum := "55ae6a6e50f38c012be1e72aae953d47c2f707ddceaa3c9e73402abef0741187", func := "given.example/pub-abaculus/laws.FnRGUnion", spec := "fnRGUnion", unfollowed := true, recurses := true, named := ["given.example/pub-abaculus/impl.whole"], apart := false, laid := [("given.example/pub-abaculus/impl.whole", laid_given_example_pub_abaculus_impl_whole)] }
def FnRGUnionSaid : Prop := fnRGUnionRow.holds Tryd.pinned (OpenSpec.ofChange fnRGUnionSpec)

/-- ITS FALSE NEIGHBOUR: 'it returns false'. Refute it at one input. -/
def fnRGUnionWrong : ChangeSpec := { name := "fnRGUnion", vars := ["given.example/pub-abaculus/impl.whole"], fn := fun _ => fun
  | [d1, d2, g1] => { results := [.lit (.bool false)], args := [d1, d2], vars := [g1] }
  | _ => none }
def FnRGUnionWrongFalsely : Prop := fnRGUnionRow.holds Tryd.pinned (OpenSpec.ofChange fnRGUnionWrong)

/-- 'laws.FnRRMerges': WHATEVER THE INPUT: true; the input reads as it did. -/
def fnRRMergesSpec : ChangeSpec := { name := "fnRRMerges", vars := ["given.example/pub-abaculus/impl.whole"], fn := fun _ => fun
  | [d1, d2, d3, g1] => { results := [.lit (.bool true)], args := [d1, d2, d3], vars := [g1] }
  | _ => none }
def fnRRMergesRow : OpenClaim := { program := "ytlcoodjkolponaadoor", sum := "55ae6a6e50f38c012be1e72aae953d47c2f707ddceaa3c9e73402abef0741187", func := "given.example/pub-abaculus/laws.FnRRMerges", spec := "fnRRMerges", unfollowed := true, recurses := true, named := ["given.example/pub-abaculus/impl.whole"], apart := false, laid := [("given.example/pub-abaculus/impl.whole", laid_given_example_pub_abaculus_impl_whole)] }
def FnRRMergesSaid : Prop := fnRRMergesRow.holds Tryd.pinned (OpenSpec.ofChange fnRRMergesSpec)

/-- ITS FALSE NEIGHBOUR: 'it returns false'. Refute it at one input. -/
def fnRRMergesWrong : ChangeSpec := { name := "fnRRMerges", vars := ["given.example/pub-abaculus/impl.whole"], fn := fun _ => fun
  | [d1, d2, d3, g1] => { results := [.lit (.bool false)], args := [d1, d2, d3], vars := [g1] }
  | _ => none }
def FnRRMergesWrongFalsely : Prop := fnRRMergesRow.holds Tryd.pinned (OpenSpec.ofChange fnRRMergesWrong)

/-- 'laws.FnRRAsks': WHATEVER THE INPUT: true; the input reads as it did. -/
def fnRRAsksSpec : ChangeSpec := { name := "fnRRAsks", vars := ["given.example/pub-abaculus/impl.whole"], fn := fun _ => fun
  | [d1, d2, d3, g1] => { results := [.lit (.bool true)], args := [d1, d2, d3], vars := [g1] }
  | _ => none }
def fnRRAsksRow : OpenClaim := { program := "ytlcoodjkolponaadoor", sum := "55ae6a6e50f38c012be1e72aae953d47c2f707ddceaa3c9e73402abef0741187", func := "given.example/pub-abaculus/laws.FnRRAsks", spec := "fnRRAsks", unfollowed := true, recurses := true, named := ["given.example/pub-abaculus/impl.whole"], apart := false, laid := [("given.example/pub-abaculus/impl.whole", laid_given_example_pub_abaculus_impl_whole)] }
def FnRRAsksSaid : Prop := fnRRAsksRow.holds Tryd.pinned (OpenSpec.ofChange fnRRAsksSpec)

/-- ITS FALSE NEIGHBOUR: 'it returns false'. Refute it at one input. -/
def fnRRAsksWrong : ChangeSpec := { name := "fnRRAsks", vars := ["given.example/pub-abaculus/impl.whole"], fn := fun _ => fun
  | [d1, d2, d3, g1] => { results := [.lit (.bool false)], args := [d1, d2, d3], vars := [g1] }
  | _ => none }
def FnRRAsksWrongFalsely : Prop := fnRRAsksRow.holds Tryd.pinned (OpenSpec.ofChange fnRRAsksWrong)

/-- 'laws.FnRGSimplify': WHATEVER THE INPUT: true; the input reads as it did. -/
def fnRGSimplifySpec : ChangeSpec := { name := "fnRGSimplify", vars := ["given.example/pub-abaculus/impl.whole"], fn := fun _ => fun
  | [d, g1] => { results := [.lit (.bool true)], args := [d], vars := [g1] }
  | _ => none }
def fnRGSimplifyRow : OpenClaim := { program := "ytlcoodjkolponaadoor", sum := "55ae6a6e50f38c012be1e72aae953d47c2f707ddceaa3c9e73402abef0741187", func := "given.example/pub-abaculus/laws.FnRGSimplify", spec := "fnRGSimplify", unfollowed := true, recurses := true, named := ["given.example/pub-abaculus/impl.whole"], apart := false, laid := [("given.example/pub-abaculus/impl.whole", laid_given_example_pub_abaculus_impl_whole)] }
def FnRGSimplifySaid : Prop := fnRGSimplifyRow.holds Tryd.pinned (OpenSpec.ofChange fnRGSimplifySpec)

/-- ITS FALSE NEIGHBOUR: 'it returns false'. Refute it at one input. -/
def fnRGSimplifyWrong : ChangeSpec := { name := "fnRGSimplify", vars := ["given.example/pub-abaculus/impl.whole"], fn := fun _ => fun
  | [d, g1] => { results := [.lit (.bool false)], args := [d], vars := [g1] }
  | _ => none }
def FnRGSimplifyWrongFalsely : Prop := fnRGSimplifyRow.holds Tryd.pinned (OpenSpec.ofChange fnRGSimplifyWrong)

/- THE SECOND FORM. 'bulk': how many values and letters a reading holds, each counted each time it is reached (what is shared counts as often as it is met; a slice's spare places count too). A statement '..UptoSaid' is the law's where the arguments, and the package variables that the reading takes, are together of bulk at most 1048576: NARROWER than '..Said'. Prove '..Said' where nothing that the law and all that it calls make is longer than what came in: it says more and counts as full. Else prove '..UptoSaid'. A law counts once. -/
mutual
def uptoBulk {H : Type} : DataW H → Nat
  | .lit (.string bytes) => bytes.length + 1
  | .lit _ => 1
  | .nil => 1
  | .ptr d => uptoBulk d + 1
  | .slice elems spare => uptoBulkAll elems + uptoBulkAll spare + 1
  | .agg parts => uptoBulkAll parts + 1
  | .iface _ d => uptoBulk d + 1
  | .map entries => uptoBulkEntries entries + 1
  | .held _ => 1
def uptoBulkAll {H : Type} : List (DataW H) → Nat
  | [] => 0
  | d :: r => uptoBulk d + uptoBulkAll r
def uptoBulkEntries {H : Type} : List (Lit × DataW H) → Nat
  | [] => 0
  | x :: r => uptoBulkEntry x + uptoBulkEntries r
def uptoBulkEntry {H : Type} : Lit × DataW H → Nat
  | (.string bytes, d) => bytes.length + uptoBulk d + 1
  | (_, d) => uptoBulk d + 1
 end
def uptoSmall : (H : Type) → List (DataW H) → Bool := fun _ ds => decide (uptoBulkAll ds ≤ 1048576)
def OpenSpec.upto (s : _root_.Go.ChangeSpec) : _root_.Go.OpenSpec := { _root_.Go.OpenSpec.ofChange s with cond := some uptoSmall }

/-- 'laws.FnRGCuts', WHERE WHAT IT READS IS OF BULK AT MOST 1048576: true; the input reads as it did. -/
def fnRGCutsUptoRow : OpenClaim := { program := "ytlcoodjkolponaadoor", sum := "55ae6a6e50f38c012be1e72aae953d47c2f707ddceaa3c9e73402abef0741187", func := "given.example/pub-abaculus/laws.FnRGCuts", spec := "fnRGCuts", unfollowed := true, recurses := true, named := ["given.example/pub-abaculus/impl.whole"], apart := false, laid := [("given.example/pub-abaculus/impl.whole", laid_given_example_pub_abaculus_impl_whole)], narrowed := true }
def FnRGCutsUptoSaid : Prop := fnRGCutsUptoRow.holds Tryd.pinned (OpenSpec.upto fnRGCutsSpec)

/-- 'laws.FnRRSorts', WHERE WHAT IT READS IS OF BULK AT MOST 1048576: true; the input reads as it did. -/
def fnRRSortsUptoRow : OpenClaim := { program := "ytlcoodjkolponaadoor", sum := "55ae6a6e50f38c012be1e72aae953d47c2f707ddceaa3c9e73402abef0741187", func := "given.example/pub-abaculus/laws.FnRRSorts", spec := "fnRRSorts", inPlace := ["internal/reflectlite.ValueOf", "internal/reflectlite.Swapper", "(internal/reflectlite.Value).Len"], unfollowed := true, recurses := true, named := ["given.example/pub-abaculus/impl.whole"], apart := false, laid := [("given.example/pub-abaculus/impl.whole", laid_given_example_pub_abaculus_impl_whole)], narrowed := true }
def FnRRSortsUptoSaid : Prop := fnRRSortsUptoRow.holds Tryd.pinned (OpenSpec.upto fnRRSortsSpec)

/-- 'laws.FnRGAsks', WHERE WHAT IT READS IS OF BULK AT MOST 1048576: true; the input reads as it did. -/
def fnRGAsksUptoRow : OpenClaim := { program := "ytlcoodjkolponaadoor", sum := "55ae6a6e50f38c012be1e72aae953d47c2f707ddceaa3c9e73402abef0741187", func := "given.example/pub-abaculus/laws.FnRGAsks", spec := "fnRGAsks", unfollowed := true, recurses := true, named := ["given.example/pub-abaculus/impl.whole"], apart := false, laid := [("given.example/pub-abaculus/impl.whole", laid_given_example_pub_abaculus_impl_whole)], narrowed := true }
def FnRGAsksUptoSaid : Prop := fnRGAsksUptoRow.holds Tryd.pinned (OpenSpec.upto fnRGAsksSpec)

/-- 'laws.FnRGUnion', WHERE WHAT IT READS IS OF BULK AT MOST 1048576: true; the input reads as it did. -/
def fnRGUnionUptoRow : OpenClaim := { program := "ytlcoodjkolponaadoor", sum := "55ae6a6e50f38c012be1e72aae953d47c2f707ddceaa3c9e73402abef0741187", func := "given.example/pub-abaculus/laws.FnRGUnion", spec := "fnRGUnion", unfollowed := true, recurses := true, named := ["given.example/pub-abaculus/impl.whole"], apart := false, laid := [("given.example/pub-abaculus/impl.whole", laid_given_example_pub_abaculus_impl_whole)], narrowed := true }
def FnRGUnionUptoSaid : Prop := fnRGUnionUptoRow.holds Tryd.pinned (OpenSpec.upto fnRGUnionSpec)

/-- 'laws.FnRRMerges', WHERE WHAT IT READS IS OF BULK AT MOST 1048576: true; the input reads as it did. -/
def fnRRMergesUptoRow : OpenClaim := { program := "ytlcoodjkolponaadoor", sum := "55ae6a6e50f38c012be1e72aae953d47c2f707ddceaa3c9e73402abef0741187", func := "given.example/pub-abaculus/laws.FnRRMerges", spec := "fnRRMerges", unfollowed := true, recurses := true, named := ["given.example/pub-abaculus/impl.whole"], apart := false, laid := [("given.example/pub-abaculus/impl.whole", laid_given_example_pub_abaculus_impl_whole)], narrowed := true }
def FnRRMergesUptoSaid : Prop := fnRRMergesUptoRow.holds Tryd.pinned (OpenSpec.upto fnRRMergesSpec)

/-- 'laws.FnRRAsks', WHERE WHAT IT READS IS OF BULK AT MOST 1048576: true; the input reads as it did. -/
def fnRRAsksUptoRow : OpenClaim := { program := "ytlcoodjkolponaadoor", sum := "55ae6a6e50f38c012be1e72aae953d47c2f707ddceaa3c9e73402abef0741187", func := "given.example/pub-abaculus/laws.FnRRAsks", spec := "fnRRAsks", unfollowed := true, recurses := true, named := ["given.example/pub-abaculus/impl.whole"], apart := false, laid := [("given.example/pub-abaculus/impl.whole", laid_given_example_pub_abaculus_impl_whole)], narrowed := true }
def FnRRAsksUptoSaid : Prop := fnRRAsksUptoRow.holds Tryd.pinned (OpenSpec.upto fnRRAsksSpec)

/-- 'laws.FnRGSimplify', WHERE WHAT IT READS IS OF BULK AT MOST 1048576: true; the input reads as it did. -/
def fnRGSimplifyUptoRow : OpenClaim := { program := "ytlcoodjkolponaadoor", sum := "55ae6a6e50f38c012be1e72aae953d47c2f707ddceaa3c9e73402abef0741187", func := "given.example/pub-abaculus/laws.FnRGSimplify", spec := "fnRGSimplify", unfollowed := true, recurses := true, named := ["given.example/pub-abaculus/impl.whole"], apart := false, laid := [("given.example/pub-abaculus/impl.whole", laid_given_example_pub_abaculus_impl_whole)], narrowed := true }
def FnRGSimplifyUptoSaid : Prop := fnRGSimplifyUptoRow.holds Tryd.pinned (OpenSpec.upto fnRGSimplifySpec)

end Rows
end Go.Proofs.YtlcoodjkolponaaDoor
