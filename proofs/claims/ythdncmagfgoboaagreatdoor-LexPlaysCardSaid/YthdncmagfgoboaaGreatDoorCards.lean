/-
  DERIVED. GIVEN WITH THE SEED: THE CARDS: each row of YthdncmagfgoboaaGreatDoorRows.lean that lists a variable, with what it lists TIED to the program's text (the seventh form; the later family's looks); each row that meets fmt, with fmt's text TOLD by the authors' own Lean function (tested against real Go, not proved from fmt's source: count such statements apart). THE CARD IS WHAT COUNTS. Prove the row's statement (the work); the ties are given (YthdncmagfgoboaaGreatDoorTie.lean); close each card by the builder's one call (the guide's Derived/Test/ToyasCard.lean, 'card_holds'). Laid BY PROGRAM, IN A SANDBOX (cutbox-door.mjs). By AI agents, Wed Nov 11 2026. No macro, syntax, notation, axiom, sorry.
-/
import Derived.Test.YthdncmagfgoboaaGreatDoorRows
import GoSem.ClaimSeven
namespace Go.Proofs.YthdncmagfgoboaaGreatDoor
namespace Rows

/-- THE TIED CARD OF 'orthoepylaw16.LexAll'. -/
def lexAllCard : Claim7 := { stood := { row := lexAllRow, standIns := [], harness := (true, "aa648f3f7e369e7910702dc6d532360af648eee832f8984752ccec5c136ef407"), looks := true }, kinds := [], alts := [], laidByText := true, laidKinds := [.data, .pinned], laidTests := true, laidLooks := .later }
def LexAllCardSaid : Prop := Claim7.holds Tryz.pinned (.plain (OpenSpec.ofChange lexAllSpec)) lexAllCard

/-- THE TIED CARD OF 'orthoepylaw16.LexBlanks'. -/
def lexBlanksCard : Claim7 := { stood := { row := lexBlanksRow, standIns := [], harness := (true, "aa648f3f7e369e7910702dc6d532360af648eee832f8984752ccec5c136ef407"), looks := true }, kinds := [], alts := [], laidByText := true, laidKinds := [.data, .pinned], laidTests := true, laidLooks := .later }
def LexBlanksCardSaid : Prop := Claim7.holds Tryz.pinned (.plain (OpenSpec.ofChange lexBlanksSpec)) lexBlanksCard

/-- THE TIED CARD OF 'orthoepylaw16.LexParts'. -/
def lexPartsCard : Claim7 := { stood := { row := lexPartsRow, standIns := [], harness := (true, "aa648f3f7e369e7910702dc6d532360af648eee832f8984752ccec5c136ef407"), looks := true }, kinds := [], alts := [], laidByText := true, laidKinds := [.data, .pinned], laidTests := true, laidLooks := .later }
def LexPartsCardSaid : Prop := Claim7.holds Tryz.pinned (.plain (OpenSpec.ofChange lexPartsSpec)) lexPartsCard

/-- THE TIED CARD OF 'orthoepylaw16.LexEnds'. -/
def lexEndsCard : Claim7 := { stood := { row := lexEndsRow, standIns := [], harness := (true, "aa648f3f7e369e7910702dc6d532360af648eee832f8984752ccec5c136ef407"), looks := true }, kinds := [], alts := [], laidByText := true, laidKinds := [.data, .pinned], laidTests := true, laidLooks := .later }
def LexEndsCardSaid : Prop := Claim7.holds Tryz.pinned (.plain (OpenSpec.ofChange lexEndsSpec)) lexEndsCard

/-- THE TIED CARD OF 'orthoepylaw16.LexPlays'. -/
def lexPlaysCard : Claim7 := { stood := { row := lexPlaysRow, standIns := [], harness := (true, "aa648f3f7e369e7910702dc6d532360af648eee832f8984752ccec5c136ef407"), looks := true }, kinds := [], alts := [], laidByText := true, laidKinds := [.data, .pinned], laidTests := true, laidLooks := .later }
def LexPlaysCardSaid : Prop := Claim7.holds Tryz.pinned (.plain (OpenSpec.ofChange lexPlaysSpec)) lexPlaysCard

/-- THE SECOND FORM's CARD OF 'orthoepylaw16.LexAll'. -/
def lexAllUptoCard : Claim7 := { stood := { row := lexAllUptoRow, standIns := [], harness := (true, "aa648f3f7e369e7910702dc6d532360af648eee832f8984752ccec5c136ef407"), looks := true }, kinds := [], alts := [], laidByText := true, laidKinds := [.data, .pinned], laidTests := true, laidLooks := .later }
def LexAllUptoCardSaid : Prop := Claim7.holds Tryz.pinned (.plain (OpenSpec.upto lexAllSpec)) lexAllUptoCard

/-- THE SECOND FORM's CARD OF 'orthoepylaw16.LexBlanks'. -/
def lexBlanksUptoCard : Claim7 := { stood := { row := lexBlanksUptoRow, standIns := [], harness := (true, "aa648f3f7e369e7910702dc6d532360af648eee832f8984752ccec5c136ef407"), looks := true }, kinds := [], alts := [], laidByText := true, laidKinds := [.data, .pinned], laidTests := true, laidLooks := .later }
def LexBlanksUptoCardSaid : Prop := Claim7.holds Tryz.pinned (.plain (OpenSpec.upto lexBlanksSpec)) lexBlanksUptoCard

/-- THE SECOND FORM's CARD OF 'orthoepylaw16.LexParts'. -/
def lexPartsUptoCard : Claim7 := { stood := { row := lexPartsUptoRow, standIns := [], harness := (true, "aa648f3f7e369e7910702dc6d532360af648eee832f8984752ccec5c136ef407"), looks := true }, kinds := [], alts := [], laidByText := true, laidKinds := [.data, .pinned], laidTests := true, laidLooks := .later }
def LexPartsUptoCardSaid : Prop := Claim7.holds Tryz.pinned (.plain (OpenSpec.upto lexPartsSpec)) lexPartsUptoCard

/-- THE SECOND FORM's CARD OF 'orthoepylaw16.LexEnds'. -/
def lexEndsUptoCard : Claim7 := { stood := { row := lexEndsUptoRow, standIns := [], harness := (true, "aa648f3f7e369e7910702dc6d532360af648eee832f8984752ccec5c136ef407"), looks := true }, kinds := [], alts := [], laidByText := true, laidKinds := [.data, .pinned], laidTests := true, laidLooks := .later }
def LexEndsUptoCardSaid : Prop := Claim7.holds Tryz.pinned (.plain (OpenSpec.upto lexEndsSpec)) lexEndsUptoCard

/-- THE SECOND FORM's CARD OF 'orthoepylaw16.LexPlays'. -/
def lexPlaysUptoCard : Claim7 := { stood := { row := lexPlaysUptoRow, standIns := [], harness := (true, "aa648f3f7e369e7910702dc6d532360af648eee832f8984752ccec5c136ef407"), looks := true }, kinds := [], alts := [], laidByText := true, laidKinds := [.data, .pinned], laidTests := true, laidLooks := .later }
def LexPlaysUptoCardSaid : Prop := Claim7.holds Tryz.pinned (.plain (OpenSpec.upto lexPlaysSpec)) lexPlaysUptoCard
end Rows
end Go.Proofs.YthdncmagfgoboaaGreatDoor
