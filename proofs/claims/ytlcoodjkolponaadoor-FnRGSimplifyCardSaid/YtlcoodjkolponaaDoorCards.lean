/-
  DERIVED. GIVEN WITH THE SEED: THE CARDS: each row of YtlcoodjkolponaaDoorRows.lean that lists a variable, with what it lists TIED to the program's text (the seventh form; the later family's looks); each row that meets fmt, with fmt's text TOLD by the authors' own Lean function (tested against real Go, not proved from fmt's source: count such statements apart). THE CARD IS WHAT COUNTS. Prove the row's statement (the work); the ties are given (YtlcoodjkolponaaDoorTie.lean); close each card by the builder's one call (the guide's Derived/Test/ToyasCard.lean, 'card_holds'). Laid BY PROGRAM, IN A SANDBOX (cutbox-door.mjs). By AI agents, Wed Nov 11 2026. No macro, syntax, notation, axiom, sorry.
-/
import Derived.Test.YtlcoodjkolponaaDoorRows
import GoSem.ClaimSeven
namespace Go.Proofs.YtlcoodjkolponaaDoor
namespace Rows

/-- THE TIED CARD OF 'laws.FnRGCuts'. -/
def fnRGCutsCard : Claim7 := { stood := { row := fnRGCutsRow, standIns := [], harness := (true, "bbc5a33eca6a8f1d36a985dc5b6e6b67daa45719a214df2c8cd0102e239dc019"), looks := true }, kinds := [], alts := [], laidByText := true, laidKinds := [.data], laidTests := true, laidLooks := .later }
def FnRGCutsCardSaid : Prop := Claim7.holds Tryd.pinned (.plain (OpenSpec.ofChange fnRGCutsSpec)) fnRGCutsCard

/-- THE TIED CARD OF 'laws.FnRRSorts'. -/
def fnRRSortsCard : Claim7 := { stood := { row := fnRRSortsRow, standIns := [], harness := (true, "bbc5a33eca6a8f1d36a985dc5b6e6b67daa45719a214df2c8cd0102e239dc019"), looks := true }, kinds := [], alts := [], laidByText := true, laidKinds := [.data], laidTests := true, laidLooks := .later }
def FnRRSortsCardSaid : Prop := Claim7.holds Tryd.pinned (.plain (OpenSpec.ofChange fnRRSortsSpec)) fnRRSortsCard

/-- THE TIED CARD OF 'laws.FnRGAsks'. -/
def fnRGAsksCard : Claim7 := { stood := { row := fnRGAsksRow, standIns := [], harness := (true, "bbc5a33eca6a8f1d36a985dc5b6e6b67daa45719a214df2c8cd0102e239dc019"), looks := true }, kinds := [], alts := [], laidByText := true, laidKinds := [.data], laidTests := true, laidLooks := .later }
def FnRGAsksCardSaid : Prop := Claim7.holds Tryd.pinned (.plain (OpenSpec.ofChange fnRGAsksSpec)) fnRGAsksCard

/-- THE TIED CARD OF 'laws.FnRGUnion'. -/
def fnRGUnionCard : Claim7 := { stood := { row := fnRGUnionRow, standIns := [], harness := (true, "bbc5a33eca6a8f1d36a985dc5b6e6b67daa45719a214df2c8cd0102e239dc019"), looks := true }, kinds := [], alts := [], laidByText := true, laidKinds := [.data], laidTests := true, laidLooks := .later }
def FnRGUnionCardSaid : Prop := Claim7.holds Tryd.pinned (.plain (OpenSpec.ofChange fnRGUnionSpec)) fnRGUnionCard

/-- THE TIED CARD OF 'laws.FnRRMerges'. -/
def fnRRMergesCard : Claim7 := { stood := { row := fnRRMergesRow, standIns := [], harness := (true, "bbc5a33eca6a8f1d36a985dc5b6e6b67daa45719a214df2c8cd0102e239dc019"), looks := true }, kinds := [], alts := [], laidByText := true, laidKinds := [.data], laidTests := true, laidLooks := .later }
def FnRRMergesCardSaid : Prop := Claim7.holds Tryd.pinned (.plain (OpenSpec.ofChange fnRRMergesSpec)) fnRRMergesCard

/-- THE TIED CARD OF 'laws.FnRRAsks'. -/
def fnRRAsksCard : Claim7 := { stood := { row := fnRRAsksRow, standIns := [], harness := (true, "bbc5a33eca6a8f1d36a985dc5b6e6b67daa45719a214df2c8cd0102e239dc019"), looks := true }, kinds := [], alts := [], laidByText := true, laidKinds := [.data], laidTests := true, laidLooks := .later }
def FnRRAsksCardSaid : Prop := Claim7.holds Tryd.pinned (.plain (OpenSpec.ofChange fnRRAsksSpec)) fnRRAsksCard

/-- THE TIED CARD OF 'laws.FnRGSimplify'. -/
def fnRGSimplifyCard : Claim7 := { stood := { row := fnRGSimplifyRow, standIns := [], harness := (true, "bbc5a33eca6a8f1d36a985dc5b6e6b67daa45719a214df2c8cd0102e239dc019"), looks := true }, kinds := [], alts := [], laidByText := true, laidKinds := [.data], laidTests := true, laidLooks := .later }
def FnRGSimplifyCardSaid : Prop := Claim7.holds Tryd.pinned (.plain (OpenSpec.ofChange fnRGSimplifySpec)) fnRGSimplifyCard

/-- THE SECOND FORM's CARD OF 'laws.FnRGCuts'. -/
def fnRGCutsUptoCard : Claim7 := { stood := { row := fnRGCutsUptoRow, standIns := [], harness := (true, "bbc5a33eca6a8f1d36a985dc5b6e6b67daa45719a214df2c8cd0102e239dc019"), looks := true }, kinds := [], alts := [], laidByText := true, laidKinds := [.data], laidTests := true, laidLooks := .later }
def FnRGCutsUptoCardSaid : Prop := Claim7.holds Tryd.pinned (.plain (OpenSpec.upto fnRGCutsSpec)) fnRGCutsUptoCard

/-- THE SECOND FORM's CARD OF 'laws.FnRRSorts'. -/
def fnRRSortsUptoCard : Claim7 := { stood := { row := fnRRSortsUptoRow, standIns := [], harness := (true, "bbc5a33eca6a8f1d36a985dc5b6e6b67daa45719a214df2c8cd0102e239dc019"), looks := true }, kinds := [], alts := [], laidByText := true, laidKinds := [.data], laidTests := true, laidLooks := .later }
def FnRRSortsUptoCardSaid : Prop := Claim7.holds Tryd.pinned (.plain (OpenSpec.upto fnRRSortsSpec)) fnRRSortsUptoCard

/-- THE SECOND FORM's CARD OF 'laws.FnRGAsks'. -/
def fnRGAsksUptoCard : Claim7 := { stood := { row := fnRGAsksUptoRow, standIns := [], harness := (true, "bbc5a33eca6a8f1d36a985dc5b6e6b67daa45719a214df2c8cd0102e239dc019"), looks := true }, kinds := [], alts := [], laidByText := true, laidKinds := [.data], laidTests := true, laidLooks := .later }
def FnRGAsksUptoCardSaid : Prop := Claim7.holds Tryd.pinned (.plain (OpenSpec.upto fnRGAsksSpec)) fnRGAsksUptoCard

/-- THE SECOND FORM's CARD OF 'laws.FnRGUnion'. -/
def fnRGUnionUptoCard : Claim7 := { stood := { row := fnRGUnionUptoRow, standIns := [], harness := (true, "bbc5a33eca6a8f1d36a985dc5b6e6b67daa45719a214df2c8cd0102e239dc019"), looks := true }, kinds := [], alts := [], laidByText := true, laidKinds := [.data], laidTests := true, laidLooks := .later }
def FnRGUnionUptoCardSaid : Prop := Claim7.holds Tryd.pinned (.plain (OpenSpec.upto fnRGUnionSpec)) fnRGUnionUptoCard

/-- THE SECOND FORM's CARD OF 'laws.FnRRMerges'. -/
def fnRRMergesUptoCard : Claim7 := { stood := { row := fnRRMergesUptoRow, standIns := [], harness := (true, "bbc5a33eca6a8f1d36a985dc5b6e6b67daa45719a214df2c8cd0102e239dc019"), looks := true }, kinds := [], alts := [], laidByText := true, laidKinds := [.data], laidTests := true, laidLooks := .later }
def FnRRMergesUptoCardSaid : Prop := Claim7.holds Tryd.pinned (.plain (OpenSpec.upto fnRRMergesSpec)) fnRRMergesUptoCard

/-- THE SECOND FORM's CARD OF 'laws.FnRRAsks'. -/
def fnRRAsksUptoCard : Claim7 := { stood := { row := fnRRAsksUptoRow, standIns := [], harness := (true, "bbc5a33eca6a8f1d36a985dc5b6e6b67daa45719a214df2c8cd0102e239dc019"), looks := true }, kinds := [], alts := [], laidByText := true, laidKinds := [.data], laidTests := true, laidLooks := .later }
def FnRRAsksUptoCardSaid : Prop := Claim7.holds Tryd.pinned (.plain (OpenSpec.upto fnRRAsksSpec)) fnRRAsksUptoCard

/-- THE SECOND FORM's CARD OF 'laws.FnRGSimplify'. -/
def fnRGSimplifyUptoCard : Claim7 := { stood := { row := fnRGSimplifyUptoRow, standIns := [], harness := (true, "bbc5a33eca6a8f1d36a985dc5b6e6b67daa45719a214df2c8cd0102e239dc019"), looks := true }, kinds := [], alts := [], laidByText := true, laidKinds := [.data], laidTests := true, laidLooks := .later }
def FnRGSimplifyUptoCardSaid : Prop := Claim7.holds Tryd.pinned (.plain (OpenSpec.upto fnRGSimplifySpec)) fnRGSimplifyUptoCard
end Rows
end Go.Proofs.YtlcoodjkolponaaDoor
