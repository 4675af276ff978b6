/-
  DERIVED. GIVEN WITH THE SEED: THE CARDS: each row of YtcpfooceadgccaaDoorRows.lean that lists a variable, with what it lists TIED to the program's text (the seventh form; the later family's looks); each row that meets fmt, with fmt's text TOLD by the authors' own Lean function (tested against real Go, not proved from fmt's source: count such statements apart). THE CARD IS WHAT COUNTS. Prove the row's statement (the work); the ties are given (YtcpfooceadgccaaDoorTie.lean); close each card by the builder's one call (the guide's Derived/Test/ToyasCard.lean, 'card_holds'). Laid BY PROGRAM, IN A SANDBOX (cutbox-door.mjs). By AI agents, Wed Nov 11 2026. No macro, syntax, notation, axiom, sorry.
-/
import Derived.Test.YtcpfooceadgccaaDoorRows
import GoSem.ClaimSeven
namespace Go.Proofs.YtcpfooceadgccaaDoor
namespace Rows

/-- THE TIED CARD OF 'orthoepylaw10.DigitsAll'. -/
def digitsAllCard : Claim7 := { stood := { row := digitsAllRow, standIns := [], harness := (true, "f5886647a843d832a6e53524f09939855d05e35e89979a924b2102ff58d3e52e"), looks := false }, kinds := [], alts := [], laidByText := true, laidKinds := [.data, .pinned], laidTests := true, laidLooks := .later }
def DigitsAllCardSaid : Prop := Claim7.holds Tryd.pinned (.plain (OpenSpec.ofChange digitsAllSpec)) digitsAllCard

/-- THE TIED CARD OF 'orthoepylaw10.DigitsBack'. -/
def digitsBackCard : Claim7 := { stood := { row := digitsBackRow, standIns := [], harness := (true, "f5886647a843d832a6e53524f09939855d05e35e89979a924b2102ff58d3e52e"), looks := false }, kinds := [], alts := [], laidByText := true, laidKinds := [.data, .pinned], laidTests := true, laidLooks := .later }
def DigitsBackCardSaid : Prop := Claim7.holds Tryd.pinned (.plain (OpenSpec.ofChange digitsBackSpec)) digitsBackCard

/-- THE TIED CARD OF 'orthoepylaw10.DigitsForms'. -/
def digitsFormsCard : Claim7 := { stood := { row := digitsFormsRow, standIns := [], harness := (true, "f5886647a843d832a6e53524f09939855d05e35e89979a924b2102ff58d3e52e"), looks := false }, kinds := [], alts := [], laidByText := true, laidKinds := [.data, .pinned], laidTests := true, laidLooks := .later }
def DigitsFormsCardSaid : Prop := Claim7.holds Tryd.pinned (.plain (OpenSpec.ofChange digitsFormsSpec)) digitsFormsCard

/-- THE TIED CARD OF 'orthoepylaw10.DigitsNorms'. -/
def digitsNormsCard : Claim7 := { stood := { row := digitsNormsRow, standIns := [], harness := (true, "f5886647a843d832a6e53524f09939855d05e35e89979a924b2102ff58d3e52e"), looks := false }, kinds := [], alts := [], laidByText := true, laidKinds := [.data, .pinned], laidTests := true, laidLooks := .later }
def DigitsNormsCardSaid : Prop := Claim7.holds Tryd.pinned (.plain (OpenSpec.ofChange digitsNormsSpec)) digitsNormsCard

/-- THE TIED CARD OF 'orthoepylaw10.DigitsOrder'. -/
def digitsOrderCard : Claim7 := { stood := { row := digitsOrderRow, standIns := [], harness := (true, "f5886647a843d832a6e53524f09939855d05e35e89979a924b2102ff58d3e52e"), looks := false }, kinds := [], alts := [], laidByText := true, laidKinds := [.data, .pinned], laidTests := true, laidLooks := .later }
def DigitsOrderCardSaid : Prop := Claim7.holds Tryd.pinned (.plain (OpenSpec.ofChange digitsOrderSpec)) digitsOrderCard

/-- THE TIED CARD OF 'orthoepylaw11.NumberPlays'. -/
def numberPlaysCard : Claim7 := { stood := { row := numberPlaysRow, standIns := [], harness := (true, "f5886647a843d832a6e53524f09939855d05e35e89979a924b2102ff58d3e52e"), looks := false }, kinds := [], alts := [], laidByText := true, laidKinds := [.data, .pinned], laidTests := true, laidLooks := .later }
def NumberPlaysCardSaid : Prop := Claim7.holds Tryd.pinned (.plain (OpenSpec.ofChange numberPlaysSpec)) numberPlaysCard

/-- THE TIED CARD OF 'orthoepylaw11.NumberReads'. -/
def numberReadsCard : Claim7 := { stood := { row := numberReadsRow, standIns := [], harness := (true, "f5886647a843d832a6e53524f09939855d05e35e89979a924b2102ff58d3e52e"), looks := false }, kinds := [], alts := [], laidByText := true, laidKinds := [.data, .pinned], laidTests := true, laidLooks := .later }
def NumberReadsCardSaid : Prop := Claim7.holds Tryd.pinned (.plain (OpenSpec.ofChange numberReadsSpec)) numberReadsCard

/-- THE TIED CARD OF 'orthoepylaw11.NumberHopeless'. -/
def numberHopelessCard : Claim7 := { stood := { row := numberHopelessRow, standIns := [], harness := (true, "f5886647a843d832a6e53524f09939855d05e35e89979a924b2102ff58d3e52e"), looks := false }, kinds := [], alts := [], laidByText := true, laidKinds := [.data, .pinned], laidTests := true, laidLooks := .later }
def NumberHopelessCardSaid : Prop := Claim7.holds Tryd.pinned (.plain (OpenSpec.ofChange numberHopelessSpec)) numberHopelessCard

/-- THE TIED CARD OF 'orthoepylaw11.NumberEdges'. -/
def numberEdgesCard : Claim7 := { stood := { row := numberEdgesRow, standIns := [], harness := (true, "f5886647a843d832a6e53524f09939855d05e35e89979a924b2102ff58d3e52e"), looks := false }, kinds := [], alts := [], laidByText := true, laidKinds := [.data, .pinned], laidTests := true, laidLooks := .later }
def NumberEdgesCardSaid : Prop := Claim7.holds Tryd.pinned (.plain (OpenSpec.ofChange numberEdgesSpec)) numberEdgesCard

/-- THE TIED CARD OF 'orthoepylaw11.NumberHopes'. -/
def numberHopesCard : Claim7 := { stood := { row := numberHopesRow, standIns := [], harness := (true, "f5886647a843d832a6e53524f09939855d05e35e89979a924b2102ff58d3e52e"), looks := false }, kinds := [], alts := [], laidByText := true, laidKinds := [.data, .pinned], laidTests := true, laidLooks := .later }
def NumberHopesCardSaid : Prop := Claim7.holds Tryd.pinned (.plain (OpenSpec.ofChange numberHopesSpec)) numberHopesCard

/-- THE TIED CARD OF 'orthoepylaw11.NumberCopies'. -/
def numberCopiesCard : Claim7 := { stood := { row := numberCopiesRow, standIns := [], harness := (true, "f5886647a843d832a6e53524f09939855d05e35e89979a924b2102ff58d3e52e"), looks := false }, kinds := [], alts := [], laidByText := true, laidKinds := [.data, .pinned], laidTests := true, laidLooks := .later }
def NumberCopiesCardSaid : Prop := Claim7.holds Tryd.pinned (.plain (OpenSpec.ofChange numberCopiesSpec)) numberCopiesCard

/-- THE SECOND FORM's CARD OF 'orthoepylaw10.DigitsAll'. -/
def digitsAllUptoCard : Claim7 := { stood := { row := digitsAllUptoRow, standIns := [], harness := (true, "f5886647a843d832a6e53524f09939855d05e35e89979a924b2102ff58d3e52e"), looks := false }, kinds := [], alts := [], laidByText := true, laidKinds := [.data, .pinned], laidTests := true, laidLooks := .later }
def DigitsAllUptoCardSaid : Prop := Claim7.holds Tryd.pinned (.plain (OpenSpec.upto digitsAllSpec)) digitsAllUptoCard

/-- THE SECOND FORM's CARD OF 'orthoepylaw10.DigitsBack'. -/
def digitsBackUptoCard : Claim7 := { stood := { row := digitsBackUptoRow, standIns := [], harness := (true, "f5886647a843d832a6e53524f09939855d05e35e89979a924b2102ff58d3e52e"), looks := false }, kinds := [], alts := [], laidByText := true, laidKinds := [.data, .pinned], laidTests := true, laidLooks := .later }
def DigitsBackUptoCardSaid : Prop := Claim7.holds Tryd.pinned (.plain (OpenSpec.upto digitsBackSpec)) digitsBackUptoCard

/-- THE SECOND FORM's CARD OF 'orthoepylaw10.DigitsForms'. -/
def digitsFormsUptoCard : Claim7 := { stood := { row := digitsFormsUptoRow, standIns := [], harness := (true, "f5886647a843d832a6e53524f09939855d05e35e89979a924b2102ff58d3e52e"), looks := false }, kinds := [], alts := [], laidByText := true, laidKinds := [.data, .pinned], laidTests := true, laidLooks := .later }
def DigitsFormsUptoCardSaid : Prop := Claim7.holds Tryd.pinned (.plain (OpenSpec.upto digitsFormsSpec)) digitsFormsUptoCard

/-- THE SECOND FORM's CARD OF 'orthoepylaw10.DigitsNorms'. -/
def digitsNormsUptoCard : Claim7 := { stood := { row := digitsNormsUptoRow, standIns := [], harness := (true, "f5886647a843d832a6e53524f09939855d05e35e89979a924b2102ff58d3e52e"), looks := false }, kinds := [], alts := [], laidByText := true, laidKinds := [.data, .pinned], laidTests := true, laidLooks := .later }
def DigitsNormsUptoCardSaid : Prop := Claim7.holds Tryd.pinned (.plain (OpenSpec.upto digitsNormsSpec)) digitsNormsUptoCard

/-- THE SECOND FORM's CARD OF 'orthoepylaw10.DigitsOrder'. -/
def digitsOrderUptoCard : Claim7 := { stood := { row := digitsOrderUptoRow, standIns := [], harness := (true, "f5886647a843d832a6e53524f09939855d05e35e89979a924b2102ff58d3e52e"), looks := false }, kinds := [], alts := [], laidByText := true, laidKinds := [.data, .pinned], laidTests := true, laidLooks := .later }
def DigitsOrderUptoCardSaid : Prop := Claim7.holds Tryd.pinned (.plain (OpenSpec.upto digitsOrderSpec)) digitsOrderUptoCard

/-- THE SECOND FORM's CARD OF 'orthoepylaw11.NumberPlays'. -/
def numberPlaysUptoCard : Claim7 := { stood := { row := numberPlaysUptoRow, standIns := [], harness := (true, "f5886647a843d832a6e53524f09939855d05e35e89979a924b2102ff58d3e52e"), looks := false }, kinds := [], alts := [], laidByText := true, laidKinds := [.data, .pinned], laidTests := true, laidLooks := .later }
def NumberPlaysUptoCardSaid : Prop := Claim7.holds Tryd.pinned (.plain (OpenSpec.upto numberPlaysSpec)) numberPlaysUptoCard

/-- THE SECOND FORM's CARD OF 'orthoepylaw11.NumberReads'. -/
def numberReadsUptoCard : Claim7 := { stood := { row := numberReadsUptoRow, standIns := [], harness := (true, "f5886647a843d832a6e53524f09939855d05e35e89979a924b2102ff58d3e52e"), looks := false }, kinds := [], alts := [], laidByText := true, laidKinds := [.data, .pinned], laidTests := true, laidLooks := .later }
def NumberReadsUptoCardSaid : Prop := Claim7.holds Tryd.pinned (.plain (OpenSpec.upto numberReadsSpec)) numberReadsUptoCard

/-- THE SECOND FORM's CARD OF 'orthoepylaw11.NumberHopeless'. -/
def numberHopelessUptoCard : Claim7 := { stood := { row := numberHopelessUptoRow, standIns := [], harness := (true, "f5886647a843d832a6e53524f09939855d05e35e89979a924b2102ff58d3e52e"), looks := false }, kinds := [], alts := [], laidByText := true, laidKinds := [.data, .pinned], laidTests := true, laidLooks := .later }
def NumberHopelessUptoCardSaid : Prop := Claim7.holds Tryd.pinned (.plain (OpenSpec.upto numberHopelessSpec)) numberHopelessUptoCard

/-- THE SECOND FORM's CARD OF 'orthoepylaw11.NumberEdges'. -/
def numberEdgesUptoCard : Claim7 := { stood := { row := numberEdgesUptoRow, standIns := [], harness := (true, "f5886647a843d832a6e53524f09939855d05e35e89979a924b2102ff58d3e52e"), looks := false }, kinds := [], alts := [], laidByText := true, laidKinds := [.data, .pinned], laidTests := true, laidLooks := .later }
def NumberEdgesUptoCardSaid : Prop := Claim7.holds Tryd.pinned (.plain (OpenSpec.upto numberEdgesSpec)) numberEdgesUptoCard

/-- THE SECOND FORM's CARD OF 'orthoepylaw11.NumberHopes'. -/
def numberHopesUptoCard : Claim7 := { stood := { row := numberHopesUptoRow, standIns := [], harness := (true, "f5886647a843d832a6e53524f09939855d05e35e89979a924b2102ff58d3e52e"), looks := false }, kinds := [], alts := [], laidByText := true, laidKinds := [.data, .pinned], laidTests := true, laidLooks := .later }
def NumberHopesUptoCardSaid : Prop := Claim7.holds Tryd.pinned (.plain (OpenSpec.upto numberHopesSpec)) numberHopesUptoCard

/-- THE SECOND FORM's CARD OF 'orthoepylaw11.NumberCopies'. -/
def numberCopiesUptoCard : Claim7 := { stood := { row := numberCopiesUptoRow, standIns := [], harness := (true, "f5886647a843d832a6e53524f09939855d05e35e89979a924b2102ff58d3e52e"), looks := false }, kinds := [], alts := [], laidByText := true, laidKinds := [.data, .pinned], laidTests := true, laidLooks := .later }
def NumberCopiesUptoCardSaid : Prop := Claim7.holds Tryd.pinned (.plain (OpenSpec.upto numberCopiesSpec)) numberCopiesUptoCard
end Rows
end Go.Proofs.YtcpfooceadgccaaDoor
