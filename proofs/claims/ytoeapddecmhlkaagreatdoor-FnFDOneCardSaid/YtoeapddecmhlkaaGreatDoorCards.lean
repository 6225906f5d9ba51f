/-
  DERIVED. GIVEN WITH THE SEED: THE CARDS: each row of YtoeapddecmhlkaaGreatDoorRows.lean that lists a variable, with what it lists TIED to the program's text (the seventh form; the later family's looks); each row that meets fmt, with fmt's text TOLD by the authors' own Lean function (tested against real Go, not proved from fmt's source: count such statements apart). THE CARD IS WHAT COUNTS. Prove the row's statement (the work); the ties are given (YtoeapddecmhlkaaGreatDoorTie.lean); close each card by the builder's one call (the guide's Derived/Test/ToyasCard.lean, 'card_holds'). Laid BY PROGRAM, IN A SANDBOX (cutbox-door.mjs). By AI agents, Wed Nov 11 2026. No macro, syntax, notation, axiom, sorry.
-/
import Derived.Test.YtoeapddecmhlkaaGreatDoorRows
import GoSem.ClaimSeven
namespace Go.Proofs.YtoeapddecmhlkaaGreatDoor
namespace Rows

/-- THE TIED CARD OF 'laws.FnFDOne'. -/
def fnFDOneCard : Claim7 := { stood := { row := fnFDOneRow, standIns := [], harness := (true, "4469316bf12c50fea5a409c7f805f39d0b923005c34de032b4f4688bcc3910c8"), looks := false }, kinds := [], alts := [], laidByText := true, laidKinds := [.data], laidTests := true, laidLooks := .later }
def FnFDOneCardSaid : Prop := Claim7.holds Tryz.pinned (.plain (OpenSpec.ofChange fnFDOneSpec)) fnFDOneCard

/-- THE SECOND FORM's CARD OF 'laws.FnFDOne'. -/
def fnFDOneUptoCard : Claim7 := { stood := { row := fnFDOneUptoRow, standIns := [], harness := (true, "4469316bf12c50fea5a409c7f805f39d0b923005c34de032b4f4688bcc3910c8"), looks := false }, kinds := [], alts := [], laidByText := true, laidKinds := [.data], laidTests := true, laidLooks := .later }
def FnFDOneUptoCardSaid : Prop := Claim7.holds Tryz.pinned (.plain (OpenSpec.upto fnFDOneSpec)) fnFDOneUptoCard
end Rows
end Go.Proofs.YtoeapddecmhlkaaGreatDoor
