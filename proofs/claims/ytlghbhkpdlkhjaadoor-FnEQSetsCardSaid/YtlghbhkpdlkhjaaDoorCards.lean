/-
  DERIVED. GIVEN WITH THE SEED: THE CARDS: each row of YtlghbhkpdlkhjaaDoorRows.lean that lists a variable, with what it lists TIED to the program's text (the seventh form; the later family's looks); each row that meets fmt, with fmt's text TOLD by the authors' own Lean function (tested against real Go, not proved from fmt's source: count such statements apart). THE CARD IS WHAT COUNTS. Prove the row's statement (the work); the ties are given (YtlghbhkpdlkhjaaDoorTie.lean); close each card by the builder's one call (the guide's Derived/Test/ToyasCard.lean, 'card_holds'). Laid BY PROGRAM, IN A SANDBOX (cutbox-door.mjs). By AI agents, Wed Nov 11 2026. No macro, syntax, notation, axiom, sorry.
-/
import Derived.Test.YtlghbhkpdlkhjaaDoorRows
import GoSem.ClaimSeven
namespace Go.Proofs.YtlghbhkpdlkhjaaDoor
namespace Rows

/-- THE TIED CARD OF 'laws.FnISAsks'. -/
def fnISAsksCard : Claim7 := { stood := { row := fnISAsksRow, standIns := [], harness := (true, "b126cca6be12983afcc8b9f68f65c7fd7ee7a93b1cba5f933e4f15c24d185b46"), looks := false }, kinds := [], alts := [], laidByText := true, laidKinds := [.data], laidTests := true, laidLooks := .later }
def FnISAsksCardSaid : Prop := Claim7.holds Tryd.pinned (.plain (OpenSpec.ofChange fnISAsksSpec)) fnISAsksCard

/-- THE TIED CARD OF 'laws.FnEQSets'. -/
def fnEQSetsCard : Claim7 := { stood := { row := fnEQSetsRow, standIns := [], harness := (true, "b126cca6be12983afcc8b9f68f65c7fd7ee7a93b1cba5f933e4f15c24d185b46"), looks := false }, kinds := [], alts := [], laidByText := true, laidKinds := [.data], laidTests := true, laidLooks := .later }
def FnEQSetsCardSaid : Prop := Claim7.holds Tryd.pinned (.plain (OpenSpec.ofChange fnEQSetsSpec)) fnEQSetsCard

/-- THE TIED CARD OF 'laws.FnISDeep'. -/
def fnISDeepCard : Claim7 := { stood := { row := fnISDeepRow, standIns := [], harness := (true, "b126cca6be12983afcc8b9f68f65c7fd7ee7a93b1cba5f933e4f15c24d185b46"), looks := false }, kinds := [], alts := [], laidByText := true, laidKinds := [.data], laidTests := true, laidLooks := .later }
def FnISDeepCardSaid : Prop := Claim7.holds Tryd.pinned (.plain (OpenSpec.ofChange fnISDeepSpec)) fnISDeepCard

/-- THE TIED CARD OF 'laws.FnISText'. -/
def fnISTextCard : Claim7 := { stood := { row := fnISTextRow, standIns := [], harness := (true, "b126cca6be12983afcc8b9f68f65c7fd7ee7a93b1cba5f933e4f15c24d185b46"), looks := false }, kinds := [], alts := [], laidByText := true, laidKinds := [.data, .data, .data, .sentinel], laidTests := true, laidLooks := .later }
def FnISTextCardSaid : Prop := Claim7.holds Tryd.pinned (.plain (OpenSpec.ofChange fnISTextSpec)) fnISTextCard

/-- THE SECOND FORM's CARD OF 'laws.FnISAsks'. -/
def fnISAsksUptoCard : Claim7 := { stood := { row := fnISAsksUptoRow, standIns := [], harness := (true, "b126cca6be12983afcc8b9f68f65c7fd7ee7a93b1cba5f933e4f15c24d185b46"), looks := false }, kinds := [], alts := [], laidByText := true, laidKinds := [.data], laidTests := true, laidLooks := .later }
def FnISAsksUptoCardSaid : Prop := Claim7.holds Tryd.pinned (.plain (OpenSpec.upto fnISAsksSpec)) fnISAsksUptoCard

/-- THE SECOND FORM's CARD OF 'laws.FnEQSets'. -/
def fnEQSetsUptoCard : Claim7 := { stood := { row := fnEQSetsUptoRow, standIns := [], harness := (true, "b126cca6be12983afcc8b9f68f65c7fd7ee7a93b1cba5f933e4f15c24d185b46"), looks := false }, kinds := [], alts := [], laidByText := true, laidKinds := [.data], laidTests := true, laidLooks := .later }
def FnEQSetsUptoCardSaid : Prop := Claim7.holds Tryd.pinned (.plain (OpenSpec.upto fnEQSetsSpec)) fnEQSetsUptoCard

/-- THE SECOND FORM's CARD OF 'laws.FnISDeep'. -/
def fnISDeepUptoCard : Claim7 := { stood := { row := fnISDeepUptoRow, standIns := [], harness := (true, "b126cca6be12983afcc8b9f68f65c7fd7ee7a93b1cba5f933e4f15c24d185b46"), looks := false }, kinds := [], alts := [], laidByText := true, laidKinds := [.data], laidTests := true, laidLooks := .later }
def FnISDeepUptoCardSaid : Prop := Claim7.holds Tryd.pinned (.plain (OpenSpec.upto fnISDeepSpec)) fnISDeepUptoCard

/-- THE SECOND FORM's CARD OF 'laws.FnISText'. -/
def fnISTextUptoCard : Claim7 := { stood := { row := fnISTextUptoRow, standIns := [], harness := (true, "b126cca6be12983afcc8b9f68f65c7fd7ee7a93b1cba5f933e4f15c24d185b46"), looks := false }, kinds := [], alts := [], laidByText := true, laidKinds := [.data, .data, .data, .sentinel], laidTests := true, laidLooks := .later }
def FnISTextUptoCardSaid : Prop := Claim7.holds Tryd.pinned (.plain (OpenSpec.upto fnISTextSpec)) fnISTextUptoCard
end Rows
end Go.Proofs.YtlghbhkpdlkhjaaDoor
