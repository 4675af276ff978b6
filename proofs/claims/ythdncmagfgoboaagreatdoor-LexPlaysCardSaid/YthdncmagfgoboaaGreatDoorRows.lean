/-
  NARROWER THAN 'FOR EVERY INPUT', by the rows' own cells (each row's printed sentence says how): LexAll: laid · LexBlanks: laid · LexParts: laid · LexEnds: laid · LexPlays: laid.
  DERIVED. THE GIVEN ROWS OF THIS SEAT. 5 by the template 'for every input the law returns true; each argument reads behind the call as it read before'; 0 by the template 'total and deterministic' (their statements: YthdncmagfgoboaaGreatDoorTotals.lean).
  GIVEN WITH THE SEED: the statements are not yours to turn. If you find one false, say at which input.
  Laid BY PROGRAM, IN A SANDBOX (cutbox-rows.mjs): the forced cells as the released guide's own fill.sh prints them over the translation f5141a1546f88c20… (all of the seat's roots in one cut). By AI agents, Wed Nov 11 2026. No macro, syntax, notation, axiom, sorry.
-/
import Derived.Test.YthdncmagfgoboaaGreatDoorChecked
import GoSem.PinnedTables
import GoSem.Claim
import GoSem.ClaimJoined
import GoSem.ClaimMapViews
import Derived.JoinedTies
import Derived.KernelRfl
namespace Go.Proofs.YthdncmagfgoboaaGreatDoor
/- THE CELL 'sum', in the pinned program and in every row, IS THE sha256 OF THE DUMP (.gsa) THAT YthdncmagfgoboaaGreatDoorProg.lean LOADS. Nothing in Lean hashes anything: it is a label: what it is worth is what the hold of that sum in a sandbox is worth. -/
noncomputable def Tryz.pinned : Pinned := { name := "ythdncmagfgoboaagreatdoor", sum := "f5141a1546f88c20e02f754948d12fbc978a25be9b44d572b2a6a075a79a3aee", checked := Tryz.checked }
namespace Rows
def none {H : Type} : Left H := { results := [], args := [] }

/- WHAT THE LISTED PACKAGE-LEVEL VARIABLES READ AS WHEN THE CALL BEGINS. Each datum BY PROGRAM (the guide's laid-datum.mjs) off the statement by which the dump's own 'gosem.cut.vars' lays the variable. In a bare row this is a premise. The card (YthdncmagfgoboaaGreatDoorCards.lean) ties it to the program's text. -/
def laid_unicode_utf8_acceptRanges {H : Type} : DataW H := .agg [.agg [.lit (.int .u8 128), .lit (.int .u8 191)], .agg [.lit (.int .u8 160), .lit (.int .u8 191)], .agg [.lit (.int .u8 128), .lit (.int .u8 159)], .agg [.lit (.int .u8 144), .lit (.int .u8 191)], .agg [.lit (.int .u8 128), .lit (.int .u8 143)], .agg [.lit (.int .u8 0), .lit (.int .u8 0)], .agg [.lit (.int .u8 0), .lit (.int .u8 0)], .agg [.lit (.int .u8 0), .lit (.int .u8 0)], .agg [.lit (.int .u8 0), .lit (.int .u8 0)], .agg [.lit (.int .u8 0), .lit (.int .u8 0)], .agg [.lit (.int .u8 0), .lit (.int .u8 0)], .agg [.lit (.int .u8 0), .lit (.int .u8 0)], .agg [.lit (.int .u8 0), .lit (.int .u8 0)], .agg [.lit (.int .u8 0), .lit (.int .u8 0)], .agg [.lit (.int .u8 0), .lit (.int .u8 0)], .agg [.lit (.int .u8 0), .lit (.int .u8 0)]]
/-- One of Go's own tables, pinned by name: the form's constant. -/
def laid_unicode_utf8_first : DataW Unit := Go.Pinned.utf8First

/-- 'orthoepylaw16.LexAll': WHATEVER THE INPUT: true; the input reads as it did. -/
def lexAllSpec : ChangeSpec := { name := "lexAll", fn := fun _ => fun
  | [d1, d2, d3, d4] => { results := [.lit (.bool true)], args := [d1, d2, d3, d4] }
  | _ => none }
def lexAllRow : OpenClaim := { program := "ythdncmagfgoboaagreatdoor", sum := "f5141a1546f88c20e02f754948d12fbc978a25be9b44d572b2a6a075a79a3aee", func := "orthoepy/orthoepylaw16.LexAll", spec := "lexAll", inPlace := ["internal/bytealg.IndexByteString", "internal/bytealg.IndexString", "internal/abi.NoEscape", "internal/bytealg.MakeNoZero"], unfollowed := true, recurses := true, named := ["unicode/utf8.first", "unicode/utf8.acceptRanges", "internal/bytealg.MaxLen"], apart := false, laid := [("unicode/utf8.acceptRanges", laid_unicode_utf8_acceptRanges), ("unicode/utf8.first", laid_unicode_utf8_first)] }
def LexAllSaid : Prop := lexAllRow.holds Tryz.pinned (OpenSpec.ofChange lexAllSpec)

/-- ITS FALSE NEIGHBOUR: 'it returns false'. Refute it at one input. -/
def lexAllWrong : ChangeSpec := { name := "lexAll", fn := fun _ => fun
  | [d1, d2, d3, d4] => { results := [.lit (.bool false)], args := [d1, d2, d3, d4] }
  | _ => none }
def LexAllWrongFalsely : Prop := lexAllRow.holds Tryz.pinned (OpenSpec.ofChange lexAllWrong)

/-- 'orthoepylaw16.LexBlanks': WHATEVER THE INPUT: true; the input reads as it did. -/
def lexBlanksSpec : ChangeSpec := { name := "lexBlanks", fn := fun _ => fun
  | [d1, d2, d3] => { results := [.lit (.bool true)], args := [d1, d2, d3] }
  | _ => none }
def lexBlanksRow : OpenClaim := { program := "ythdncmagfgoboaagreatdoor", sum := "f5141a1546f88c20e02f754948d12fbc978a25be9b44d572b2a6a075a79a3aee", func := "orthoepy/orthoepylaw16.LexBlanks", spec := "lexBlanks", inPlace := ["internal/bytealg.IndexByteString", "internal/bytealg.IndexString", "internal/abi.NoEscape", "internal/bytealg.MakeNoZero"], unfollowed := true, recurses := true, named := ["unicode/utf8.first", "unicode/utf8.acceptRanges", "internal/bytealg.MaxLen"], apart := false, laid := [("unicode/utf8.acceptRanges", laid_unicode_utf8_acceptRanges), ("unicode/utf8.first", laid_unicode_utf8_first)] }
def LexBlanksSaid : Prop := lexBlanksRow.holds Tryz.pinned (OpenSpec.ofChange lexBlanksSpec)

/-- ITS FALSE NEIGHBOUR: 'it returns false'. Refute it at one input. -/
def lexBlanksWrong : ChangeSpec := { name := "lexBlanks", fn := fun _ => fun
  | [d1, d2, d3] => { results := [.lit (.bool false)], args := [d1, d2, d3] }
  | _ => none }
def LexBlanksWrongFalsely : Prop := lexBlanksRow.holds Tryz.pinned (OpenSpec.ofChange lexBlanksWrong)

/-- 'orthoepylaw16.LexParts': WHATEVER THE INPUT: true; the input reads as it did. -/
def lexPartsSpec : ChangeSpec := { name := "lexParts", fn := fun _ => fun
  | [d1, d2] => { results := [.lit (.bool true)], args := [d1, d2] }
  | _ => none }
def lexPartsRow : OpenClaim := { program := "ythdncmagfgoboaagreatdoor", sum := "f5141a1546f88c20e02f754948d12fbc978a25be9b44d572b2a6a075a79a3aee", func := "orthoepy/orthoepylaw16.LexParts", spec := "lexParts", inPlace := ["internal/bytealg.IndexByteString", "internal/bytealg.IndexString", "internal/abi.NoEscape", "internal/bytealg.MakeNoZero"], unfollowed := true, recurses := true, named := ["unicode/utf8.first", "unicode/utf8.acceptRanges", "internal/bytealg.MaxLen"], apart := false, laid := [("unicode/utf8.acceptRanges", laid_unicode_utf8_acceptRanges), ("unicode/utf8.first", laid_unicode_utf8_first)] }
def LexPartsSaid : Prop := lexPartsRow.holds Tryz.pinned (OpenSpec.ofChange lexPartsSpec)

/-- ITS FALSE NEIGHBOUR: 'it returns false'. Refute it at one input. -/
def lexPartsWrong : ChangeSpec := { name := "lexParts", fn := fun _ => fun
  | [d1, d2] => { results := [.lit (.bool false)], args := [d1, d2] }
  | _ => none }
def LexPartsWrongFalsely : Prop := lexPartsRow.holds Tryz.pinned (OpenSpec.ofChange lexPartsWrong)

/-- 'orthoepylaw16.LexEnds': WHATEVER THE INPUT: true; the input reads as it did. -/
def lexEndsSpec : ChangeSpec := { name := "lexEnds", fn := fun _ => fun
  | [d1, d2] => { results := [.lit (.bool true)], args := [d1, d2] }
  | _ => none }
def lexEndsRow : OpenClaim := { program := "ythdncmagfgoboaagreatdoor", sum := "f5141a1546f88c20e02f754948d12fbc978a25be9b44d572b2a6a075a79a3aee", func := "orthoepy/orthoepylaw16.LexEnds", spec := "lexEnds", inPlace := ["internal/bytealg.IndexByteString", "internal/bytealg.IndexString", "internal/abi.NoEscape", "internal/bytealg.MakeNoZero"], unfollowed := true, recurses := true, named := ["unicode/utf8.first", "unicode/utf8.acceptRanges", "internal/bytealg.MaxLen"], apart := false, laid := [("unicode/utf8.acceptRanges", laid_unicode_utf8_acceptRanges), ("unicode/utf8.first", laid_unicode_utf8_first)] }
def LexEndsSaid : Prop := lexEndsRow.holds Tryz.pinned (OpenSpec.ofChange lexEndsSpec)

/-- ITS FALSE NEIGHBOUR: 'it returns false'. Refute it at one input. -/
def lexEndsWrong : ChangeSpec := { name := "lexEnds", fn := fun _ => fun
  | [d1, d2] => { results := [.lit (.bool false)], args := [d1, d2] }
  | _ => none }
def LexEndsWrongFalsely : Prop := lexEndsRow.holds Tryz.pinned (OpenSpec.ofChange lexEndsWrong)

/-- 'orthoepylaw16.LexPlays': WHATEVER THE INPUT: true; the input reads as it did. -/
def lexPlaysSpec : ChangeSpec := { name := "lexPlays", fn := fun _ => fun
  | [d] => { results := [.lit (.bool true)], args := [d] }
  | _ => none }
def lexPlaysRow : OpenClaim := { program := "ythdncmagfgoboaagreatdoor", sum := "f5141a1546f88c20e02f754948d12fbc978a25be9b44d572b2a6a075a79a3aee", func := "orthoepy/orthoepylaw16.LexPlays", spec := "lexPlays", inPlace := ["internal/bytealg.IndexByteString", "internal/bytealg.IndexString", "internal/abi.NoEscape", "internal/bytealg.MakeNoZero"], unfollowed := true, recurses := true, named := ["unicode/utf8.first", "unicode/utf8.acceptRanges", "internal/bytealg.MaxLen"], apart := false, laid := [("unicode/utf8.acceptRanges", laid_unicode_utf8_acceptRanges), ("unicode/utf8.first", laid_unicode_utf8_first)] }
def LexPlaysSaid : Prop := lexPlaysRow.holds Tryz.pinned (OpenSpec.ofChange lexPlaysSpec)

/-- ITS FALSE NEIGHBOUR: 'it returns false'. Refute it at one input. -/
def lexPlaysWrong : ChangeSpec := { name := "lexPlays", fn := fun _ => fun
  | [d] => { results := [.lit (.bool false)], args := [d] }
  | _ => none }
def LexPlaysWrongFalsely : Prop := lexPlaysRow.holds Tryz.pinned (OpenSpec.ofChange lexPlaysWrong)

/- THE SECOND FORM. 'bulk': how many values and letters a reading holds, each counted each time it is reached (what is shared counts as often as it is met; a slice's spare places count too). A statement '..UptoSaid' is the law's where the arguments, and the package variables that the reading takes, are together of bulk at most 1048576: NARROWER than '..Said'. Prove '..Said' where nothing that the law and all that it calls make is longer than what came in: it says more and counts as full. Else prove '..UptoSaid'. A law counts once. -/
mutual
def uptoBulk {H : Type} : DataW H → Nat
  | .lit (.string bytes) => bytes.length + 1
  | .lit _ => 1
  | .nil => 1
  | .ptr d => uptoBulk d + 1
  | .slice elems spare => uptoBulkAll elems + uptoBulkAll spare + 1
  | .agg parts => uptoBulkAll parts + 1
  | .iface _ d => uptoBulk d + 1
  | .map entries => uptoBulkEntries entries + 1
  | .held _ => 1
def uptoBulkAll {H : Type} : List (DataW H) → Nat
  | [] => 0
  | d :: r => uptoBulk d + uptoBulkAll r
def uptoBulkEntries {H : Type} : List (Lit × DataW H) → Nat
  | [] => 0
  | x :: r => uptoBulkEntry x + uptoBulkEntries r
def uptoBulkEntry {H : Type} : Lit × DataW H → Nat
  | (.string bytes, d) => bytes.length + uptoBulk d + 1
  | (_, d) => uptoBulk d + 1
 end
def uptoSmall : (H : Type) → List (DataW H) → Bool := fun _ ds => decide (uptoBulkAll ds ≤ 1048576)
def OpenSpec.upto (s : _root_.Go.ChangeSpec) : _root_.Go.OpenSpec := { _root_.Go.OpenSpec.ofChange s with cond := some uptoSmall }

/-- 'orthoepylaw16.LexAll', WHERE WHAT IT READS IS OF BULK AT MOST 1048576: true; the input reads as it did. -/
def lexAllUptoRow : OpenClaim := { program := "ythdncmagfgoboaagreatdoor", sum := "f5141a1546f88c20e02f754948d12fbc978a25be9b44d572b2a6a075a79a3aee", func := "orthoepy/orthoepylaw16.LexAll", spec := "lexAll", inPlace := ["internal/bytealg.IndexByteString", "internal/bytealg.IndexString", "internal/abi.NoEscape", "internal/bytealg.MakeNoZero"], unfollowed := true, recurses := true, named := ["unicode/utf8.first", "unicode/utf8.acceptRanges", "internal/bytealg.MaxLen"], apart := false, laid := [("unicode/utf8.acceptRanges", laid_unicode_utf8_acceptRanges), ("unicode/utf8.first", laid_unicode_utf8_first)], narrowed := true }
def LexAllUptoSaid : Prop := lexAllUptoRow.holds Tryz.pinned (OpenSpec.upto lexAllSpec)

/-- 'orthoepylaw16.LexBlanks', WHERE WHAT IT READS IS OF BULK AT MOST 1048576: true; the input reads as it did. -/
def lexBlanksUptoRow : OpenClaim := { program := "ythdncmagfgoboaagreatdoor", sum := "f5141a1546f88c20e02f754948d12fbc978a25be9b44d572b2a6a075a79a3aee", func := "orthoepy/orthoepylaw16.LexBlanks", spec := "lexBlanks", inPlace := ["internal/bytealg.IndexByteString", "internal/bytealg.IndexString", "internal/abi.NoEscape", "internal/bytealg.MakeNoZero"], unfollowed := true, recurses := true, named := ["unicode/utf8.first", "unicode/utf8.acceptRanges", "internal/bytealg.MaxLen"], apart := false, laid := [("unicode/utf8.acceptRanges", laid_unicode_utf8_acceptRanges), ("unicode/utf8.first", laid_unicode_utf8_first)], narrowed := true }
def LexBlanksUptoSaid : Prop := lexBlanksUptoRow.holds Tryz.pinned (OpenSpec.upto lexBlanksSpec)

/-- 'orthoepylaw16.LexParts', WHERE WHAT IT READS IS OF BULK AT MOST 1048576: true; the input reads as it did. -/
def lexPartsUptoRow : OpenClaim := { program := "ythdncmagfgoboaagreatdoor", sum := "f5141a1546f88c20e02f754948d12fbc978a25be9b44d572b2a6a075a79a3aee", func := "orthoepy/orthoepylaw16.LexParts", spec := "lexParts", inPlace := ["internal/bytealg.IndexByteString", "internal/bytealg.IndexString", "internal/abi.NoEscape", "internal/bytealg.MakeNoZero"], unfollowed := true, recurses := true, named := ["unicode/utf8.first", "unicode/utf8.acceptRanges", "internal/bytealg.MaxLen"], apart := false, laid := [("unicode/utf8.acceptRanges", laid_unicode_utf8_acceptRanges), ("unicode/utf8.first", laid_unicode_utf8_first)], narrowed := true }
def LexPartsUptoSaid : Prop := lexPartsUptoRow.holds Tryz.pinned (OpenSpec.upto lexPartsSpec)

/-- 'orthoepylaw16.LexEnds', WHERE WHAT IT READS IS OF BULK AT MOST 1048576: true; the input reads as it did. -/
def lexEndsUptoRow : OpenClaim := { program := "ythdncmagfgoboaagreatdoor", sum := "f5141a1546f88c20e02f754948d12fbc978a25be9b44d572b2a6a075a79a3aee", func := "orthoepy/orthoepylaw16.LexEnds", spec := "lexEnds", inPlace := ["internal/bytealg.IndexByteString", "internal/bytealg.IndexString", "internal/abi.NoEscape", "internal/bytealg.MakeNoZero"], unfollowed := true, recurses := true, named := ["unicode/utf8.first", "unicode/utf8.acceptRanges", "internal/bytealg.MaxLen"], apart := false, laid := [("unicode/utf8.acceptRanges", laid_unicode_utf8_acceptRanges), ("unicode/utf8.first", laid_unicode_utf8_first)], narrowed := true }
def LexEndsUptoSaid : Prop := lexEndsUptoRow.holds Tryz.pinned (OpenSpec.upto lexEndsSpec)

/-- 'orthoepylaw16.LexPlays', WHERE WHAT IT READS IS OF BULK AT MOST 1048576: true; the input reads as it did. -/
def lexPlaysUptoRow : OpenClaim := { program := "ythdncmagfgoboaagreatdoor", sum := "f5141a1546f88c20e02f754948d12fbc978a25be9b44d572b2a6a075a79a3aee", func := "orthoepy/orthoepylaw16.LexPlays", spec := "lexPlays", inPlace := ["internal/bytealg.IndexByteString", "internal/bytealg.IndexString", "internal/abi.NoEscape", "internal/bytealg.MakeNoZero"], unfollowed := true, recurses := true, named := ["unicode/utf8.first", "unicode/utf8.acceptRanges", "internal/bytealg.MaxLen"], apart := false, laid := [("unicode/utf8.acceptRanges", laid_unicode_utf8_acceptRanges), ("unicode/utf8.first", laid_unicode_utf8_first)], narrowed := true }
def LexPlaysUptoSaid : Prop := lexPlaysUptoRow.holds Tryz.pinned (OpenSpec.upto lexPlaysSpec)

end Rows
end Go.Proofs.YthdncmagfgoboaaGreatDoor
