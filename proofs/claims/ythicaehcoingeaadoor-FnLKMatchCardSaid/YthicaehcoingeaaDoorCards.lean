/-
  DERIVED. GIVEN WITH THE SEED: THE CARDS: each row of YthicaehcoingeaaDoorRows.lean that lists a variable, with what it lists TIED to the program's text (the seventh form; the later family's looks); each row that meets fmt, with fmt's text TOLD by the authors' own Lean function (tested against real Go, not proved from fmt's source: count such statements apart). THE CARD IS WHAT COUNTS. Prove the row's statement (the work); the ties are given (YthicaehcoingeaaDoorTie.lean); close each card by the builder's one call (the guide's Derived/Test/ToyasCard.lean, 'card_holds'). Laid BY PROGRAM, IN A SANDBOX (cutbox-door.mjs). By AI agents, Wed Nov 11 2026. No macro, syntax, notation, axiom, sorry.
-/
import Derived.Test.YthicaehcoingeaaDoorRows
import GoSem.ClaimSeven
namespace Go.Proofs.YthicaehcoingeaaDoor
namespace Rows

/-- THE TIED CARD OF 'laws.FnVLThree'. -/
def fnVLThreeCard : Claim7 := { stood := { row := fnVLThreeRow, standIns := [], harness := (true, "151cc890b0c7c24119a0b358fedb85f038c5be801c34ae3942121ddc09bd968e"), looks := true }, kinds := [], alts := [], laidByText := true, laidKinds := [.data], laidTests := true, laidLooks := .later }
def FnVLThreeCardSaid : Prop := Claim7.holds Tryd.pinned (.plain (OpenSpec.ofChange fnVLThreeSpec)) fnVLThreeCard

/-- THE TIED CARD OF 'laws.FnLKMatch'. -/
def fnLKMatchCard : Claim7 := { stood := { row := fnLKMatchRow, standIns := [], harness := (true, "151cc890b0c7c24119a0b358fedb85f038c5be801c34ae3942121ddc09bd968e"), looks := true }, kinds := [], alts := [], laidByText := true, laidKinds := [.data, .pinned], laidTests := true, laidLooks := .later }
def FnLKMatchCardSaid : Prop := Claim7.holds Tryd.pinned (.plain (OpenSpec.ofChange fnLKMatchSpec)) fnLKMatchCard

/-- THE TIED CARD OF 'laws.FnVLReads'. -/
def fnVLReadsCard : Claim7 := { stood := { row := fnVLReadsRow, standIns := [], harness := (true, "151cc890b0c7c24119a0b358fedb85f038c5be801c34ae3942121ddc09bd968e"), looks := true }, kinds := [], alts := [], laidByText := true, laidKinds := [.data], laidTests := true, laidLooks := .later }
def FnVLReadsCardSaid : Prop := Claim7.holds Tryd.pinned (.plain (OpenSpec.ofChange fnVLReadsSpec)) fnVLReadsCard

/-- THE TIED CARD OF 'laws.FnTXQuote'. -/
def fnTXQuoteCard : Claim7 := { stood := { row := fnTXQuoteRow, standIns := [], harness := (true, "151cc890b0c7c24119a0b358fedb85f038c5be801c34ae3942121ddc09bd968e"), looks := true }, kinds := [], alts := [], laidByText := true, laidKinds := [.data, .sentinel, .sentinel, .pinned], laidTests := true, laidLooks := .later }
def FnTXQuoteCardSaid : Prop := Claim7.holds Tryd.pinned (.plain (OpenSpec.ofChange fnTXQuoteSpec)) fnTXQuoteCard

/-- THE TIED CARD OF 'laws.FnTXSoundex'. -/
def fnTXSoundexCard : Claim7 := { stood := { row := fnTXSoundexRow, standIns := [], harness := (true, "151cc890b0c7c24119a0b358fedb85f038c5be801c34ae3942121ddc09bd968e"), looks := true }, kinds := [], alts := [], laidByText := true, laidKinds := [.data, .data, .pinned, .pinned, .pinned], laidTests := true, laidLooks := .later }
def FnTXSoundexCardSaid : Prop := Claim7.holds Tryd.pinned (.plain (OpenSpec.ofChange fnTXSoundexSpec)) fnTXSoundexCard

/-- THE TIED CARD OF 'laws.FnTXConv'. -/
def fnTXConvCard : Claim7 := { stood := { row := fnTXConvRow, standIns := [], harness := (true, "151cc890b0c7c24119a0b358fedb85f038c5be801c34ae3942121ddc09bd968e"), looks := true }, kinds := [], alts := [], laidByText := true, laidKinds := [.data, .data, .data, .data, .sentinel, .sentinel, .pinned, .pinned], laidTests := true, laidLooks := .later }
def FnTXConvCardSaid : Prop := Claim7.holds Tryd.pinned (.plain (OpenSpec.ofChange fnTXConvSpec)) fnTXConvCard

/-- THE SECOND FORM's CARD OF 'laws.FnVLThree'. -/
def fnVLThreeUptoCard : Claim7 := { stood := { row := fnVLThreeUptoRow, standIns := [], harness := (true, "151cc890b0c7c24119a0b358fedb85f038c5be801c34ae3942121ddc09bd968e"), looks := true }, kinds := [], alts := [], laidByText := true, laidKinds := [.data], laidTests := true, laidLooks := .later }
def FnVLThreeUptoCardSaid : Prop := Claim7.holds Tryd.pinned (.plain (OpenSpec.upto fnVLThreeSpec)) fnVLThreeUptoCard

/-- THE SECOND FORM's CARD OF 'laws.FnLKMatch'. -/
def fnLKMatchUptoCard : Claim7 := { stood := { row := fnLKMatchUptoRow, standIns := [], harness := (true, "151cc890b0c7c24119a0b358fedb85f038c5be801c34ae3942121ddc09bd968e"), looks := true }, kinds := [], alts := [], laidByText := true, laidKinds := [.data, .pinned], laidTests := true, laidLooks := .later }
def FnLKMatchUptoCardSaid : Prop := Claim7.holds Tryd.pinned (.plain (OpenSpec.upto fnLKMatchSpec)) fnLKMatchUptoCard

/-- THE SECOND FORM's CARD OF 'laws.FnVLReads'. -/
def fnVLReadsUptoCard : Claim7 := { stood := { row := fnVLReadsUptoRow, standIns := [], harness := (true, "151cc890b0c7c24119a0b358fedb85f038c5be801c34ae3942121ddc09bd968e"), looks := true }, kinds := [], alts := [], laidByText := true, laidKinds := [.data], laidTests := true, laidLooks := .later }
def FnVLReadsUptoCardSaid : Prop := Claim7.holds Tryd.pinned (.plain (OpenSpec.upto fnVLReadsSpec)) fnVLReadsUptoCard

/-- THE SECOND FORM's CARD OF 'laws.FnTXQuote'. -/
def fnTXQuoteUptoCard : Claim7 := { stood := { row := fnTXQuoteUptoRow, standIns := [], harness := (true, "151cc890b0c7c24119a0b358fedb85f038c5be801c34ae3942121ddc09bd968e"), looks := true }, kinds := [], alts := [], laidByText := true, laidKinds := [.data, .sentinel, .sentinel, .pinned], laidTests := true, laidLooks := .later }
def FnTXQuoteUptoCardSaid : Prop := Claim7.holds Tryd.pinned (.plain (OpenSpec.upto fnTXQuoteSpec)) fnTXQuoteUptoCard

/-- THE SECOND FORM's CARD OF 'laws.FnTXSoundex'. -/
def fnTXSoundexUptoCard : Claim7 := { stood := { row := fnTXSoundexUptoRow, standIns := [], harness := (true, "151cc890b0c7c24119a0b358fedb85f038c5be801c34ae3942121ddc09bd968e"), looks := true }, kinds := [], alts := [], laidByText := true, laidKinds := [.data, .data, .pinned, .pinned, .pinned], laidTests := true, laidLooks := .later }
def FnTXSoundexUptoCardSaid : Prop := Claim7.holds Tryd.pinned (.plain (OpenSpec.upto fnTXSoundexSpec)) fnTXSoundexUptoCard

/-- THE SECOND FORM's CARD OF 'laws.FnTXConv'. -/
def fnTXConvUptoCard : Claim7 := { stood := { row := fnTXConvUptoRow, standIns := [], harness := (true, "151cc890b0c7c24119a0b358fedb85f038c5be801c34ae3942121ddc09bd968e"), looks := true }, kinds := [], alts := [], laidByText := true, laidKinds := [.data, .data, .data, .data, .sentinel, .sentinel, .pinned, .pinned], laidTests := true, laidLooks := .later }
def FnTXConvUptoCardSaid : Prop := Claim7.holds Tryd.pinned (.plain (OpenSpec.upto fnTXConvSpec)) fnTXConvUptoCard
end Rows
end Go.Proofs.YthicaehcoingeaaDoor
