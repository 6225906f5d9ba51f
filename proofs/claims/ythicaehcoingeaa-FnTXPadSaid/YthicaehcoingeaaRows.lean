/-
  No cell of these rows narrows 'for every input' (looked for: loops, veiled, ifaces, maps, wideKeys, modest, calm, conditions, laid).
  DERIVED. THE GIVEN ROWS OF THIS SEAT. 3 by the template 'for every input the law returns true; each argument reads behind the call as it read before'; 0 by the template 'total and deterministic' (their statements: YthicaehcoingeaaTotals.lean).
  GIVEN WITH THE SEED: the statements are not yours to turn. If you find one false, say at which input.
  Laid BY PROGRAM, IN A SANDBOX (cutbox-rows.mjs): the forced cells as the released guide's own fill.sh prints them over the translation b54544f7ca340fd5… (all of the seat's roots in one cut). By AI agents, Wed Nov 11 2026. No macro, syntax, notation, axiom, sorry.
-/
import Derived.Test.YthicaehcoingeaaChecked
import GoSem.Claim
import GoSem.ClaimJoined
import GoSem.ClaimMapViews
import Derived.JoinedTies
import Derived.KernelRfl
namespace Go.Proofs.Ythicaehcoingeaa
/- THE CELL 'sum', in the pinned program and in every row, IS THE sha256 OF THE DUMP (.gsa) THAT YthicaehcoingeaaProg.lean LOADS. Nothing in Lean hashes anything: it is a label: what it is worth is what the hold of that sum in a sandbox is worth. -/
noncomputable def Try.pinned : Pinned := { name := "ythicaehcoingeaa", sum := "b54544f7ca340fd53c1554db76101ede41a2032ece6822c9c1dacba16c98d5c7", checked := Try.checked }
namespace Rows
def none {H : Type} : Left H := { results := [], args := [] }

/-- 'laws.FnDYLeaps': WHATEVER THE INPUT: true; the input reads as it did. -/
def fnDYLeapsSpec : ChangeSpec := { name := "fnDYLeaps", fn := fun _ => fun
  | [d] => { results := [.lit (.bool true)], args := [d] }
  | _ => none }
def fnDYLeapsRow : OpenClaim := { program := "ythicaehcoingeaa", sum := "b54544f7ca340fd53c1554db76101ede41a2032ece6822c9c1dacba16c98d5c7", func := "given.example/pub-abaculus/laws.FnDYLeaps", spec := "fnDYLeaps", apart := false }
def FnDYLeapsSaid : Prop := fnDYLeapsRow.holds Try.pinned (OpenSpec.ofChange fnDYLeapsSpec)

/-- ITS FALSE NEIGHBOUR: 'it returns false'. Refute it at one input. -/
def fnDYLeapsWrong : ChangeSpec := { name := "fnDYLeaps", fn := fun _ => fun
  | [d] => { results := [.lit (.bool false)], args := [d] }
  | _ => none }
def FnDYLeapsWrongFalsely : Prop := fnDYLeapsRow.holds Try.pinned (OpenSpec.ofChange fnDYLeapsWrong)

/-- 'laws.FnTXBits': WHATEVER THE INPUT: true; the input reads as it did. -/
def fnTXBitsSpec : ChangeSpec := { name := "fnTXBits", fn := fun _ => fun
  | [d] => { results := [.lit (.bool true)], args := [d] }
  | _ => none }
def fnTXBitsRow : OpenClaim := { program := "ythicaehcoingeaa", sum := "b54544f7ca340fd53c1554db76101ede41a2032ece6822c9c1dacba16c98d5c7", func := "given.example/pub-abaculus/laws.FnTXBits", spec := "fnTXBits", apart := false }
def FnTXBitsSaid : Prop := fnTXBitsRow.holds Try.pinned (OpenSpec.ofChange fnTXBitsSpec)

/-- ITS FALSE NEIGHBOUR: 'it returns false'. Refute it at one input. -/
def fnTXBitsWrong : ChangeSpec := { name := "fnTXBits", fn := fun _ => fun
  | [d] => { results := [.lit (.bool false)], args := [d] }
  | _ => none }
def FnTXBitsWrongFalsely : Prop := fnTXBitsRow.holds Try.pinned (OpenSpec.ofChange fnTXBitsWrong)

/-- 'laws.FnTXPad': WHATEVER THE INPUT: true; the input reads as it did. -/
def fnTXPadSpec : ChangeSpec := { name := "fnTXPad", fn := fun _ => fun
  | [d1, d2, d3, d4] => { results := [.lit (.bool true)], args := [d1, d2, d3, d4] }
  | _ => none }
def fnTXPadRow : OpenClaim := { program := "ythicaehcoingeaa", sum := "b54544f7ca340fd53c1554db76101ede41a2032ece6822c9c1dacba16c98d5c7", func := "given.example/pub-abaculus/laws.FnTXPad", spec := "fnTXPad", inPlace := ["internal/abi.NoEscape", "internal/bytealg.MakeNoZero"], unfollowed := true, recurses := true, apart := false }
def FnTXPadSaid : Prop := fnTXPadRow.holds Try.pinned (OpenSpec.ofChange fnTXPadSpec)

/-- ITS FALSE NEIGHBOUR: 'it returns false'. Refute it at one input. -/
def fnTXPadWrong : ChangeSpec := { name := "fnTXPad", fn := fun _ => fun
  | [d1, d2, d3, d4] => { results := [.lit (.bool false)], args := [d1, d2, d3, d4] }
  | _ => none }
def FnTXPadWrongFalsely : Prop := fnTXPadRow.holds Try.pinned (OpenSpec.ofChange fnTXPadWrong)

/- THE SECOND FORM. 'bulk': how many values and letters a reading holds, each counted each time it is reached (what is shared counts as often as it is met; a slice's spare places count too). A statement '..UptoSaid' is the law's where the arguments, and the package variables that the reading takes, are together of bulk at most 1048576: NARROWER than '..Said'. Prove '..Said' where nothing that the law and all that it calls make is longer than what came in: it says more and counts as full. Else prove '..UptoSaid'. A law counts once. -/
mutual
def uptoBulk {H : Type} : DataW H → Nat
  | .lit (.string bytes) => bytes.length + 1
  | .lit _ => 1
  | .nil => 1
  | .ptr d => uptoBulk d + 1
  | .slice elems spare => uptoBulkAll elems + uptoBulkAll spare + 1
  | .agg parts => uptoBulkAll parts + 1
  | .iface _ d => uptoBulk d + 1
  | .map entries => uptoBulkEntries entries + 1
  | .held _ => 1
def uptoBulkAll {H : Type} : List (DataW H) → Nat
  | [] => 0
  | d :: r => uptoBulk d + uptoBulkAll r
def uptoBulkEntries {H : Type} : List (Lit × DataW H) → Nat
  | [] => 0
  | x :: r => uptoBulkEntry x + uptoBulkEntries r
def uptoBulkEntry {H : Type} : Lit × DataW H → Nat
  | (.string bytes, d) => bytes.length + uptoBulk d + 1
  | (_, d) => uptoBulk d + 1
 end
def uptoSmall : (H : Type) → List (DataW H) → Bool := fun _ ds => decide (uptoBulkAll ds ≤ 1048576)
def OpenSpec.upto (s : _root_.Go.ChangeSpec) : _root_.Go.OpenSpec := { _root_.Go.OpenSpec.ofChange s with cond := some uptoSmall }

/-- 'laws.FnDYLeaps', WHERE WHAT IT READS IS OF BULK AT MOST 1048576: true; the input reads as it did. -/
def fnDYLeapsUptoRow : OpenClaim := { program := "ythicaehcoingeaa", sum := "b54544f7ca340fd53c1554db76101ede41a2032ece6822c9c1dacba16c98d5c7", func := "given.example/pub-abaculus/laws.FnDYLeaps", spec := "fnDYLeaps", apart := false, narrowed := true }
def FnDYLeapsUptoSaid : Prop := fnDYLeapsUptoRow.holds Try.pinned (OpenSpec.upto fnDYLeapsSpec)

/-- 'laws.FnTXBits', WHERE WHAT IT READS IS OF BULK AT MOST 1048576: true; the input reads as it did. -/
def fnTXBitsUptoRow : OpenClaim := { program := "ythicaehcoingeaa", sum := "b54544f7ca340fd53c1554db76101ede41a2032ece6822c9c1dacba16c98d5c7", func := "given.example/pub-abaculus/laws.FnTXBits", spec := "fnTXBits", apart := false, narrowed := true }
def FnTXBitsUptoSaid : Prop := fnTXBitsUptoRow.holds Try.pinned (OpenSpec.upto fnTXBitsSpec)

/-- 'laws.FnTXPad', WHERE WHAT IT READS IS OF BULK AT MOST 1048576: true; the input reads as it did. -/
def fnTXPadUptoRow : OpenClaim := { program := "ythicaehcoingeaa", sum := "b54544f7ca340fd53c1554db76101ede41a2032ece6822c9c1dacba16c98d5c7", func := "given.example/pub-abaculus/laws.FnTXPad", spec := "fnTXPad", inPlace := ["internal/abi.NoEscape", "internal/bytealg.MakeNoZero"], unfollowed := true, recurses := true, apart := false, narrowed := true }
def FnTXPadUptoSaid : Prop := fnTXPadUptoRow.holds Try.pinned (OpenSpec.upto fnTXPadSpec)

end Rows
end Go.Proofs.Ythicaehcoingeaa
