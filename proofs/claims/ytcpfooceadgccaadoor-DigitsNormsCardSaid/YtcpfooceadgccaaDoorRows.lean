/-
  NARROWER THAN 'FOR EVERY INPUT', by the rows' own cells (each row's printed sentence says how): DigitsAll: laid · DigitsBack: laid · DigitsForms: laid · DigitsNorms: laid · DigitsOrder: laid · NumberPlays: laid · NumberReads: laid · NumberHopeless: laid · NumberEdges: laid · NumberHopes: laid · NumberCopies: laid.
  DERIVED. THE GIVEN ROWS OF THIS SEAT. 11 by the template 'for every input the law returns true; each argument reads behind the call as it read before'; 0 by the template 'total and deterministic' (their statements: YtcpfooceadgccaaDoorTotals.lean).
  GIVEN WITH THE SEED: the statements are not yours to turn. If you find one false, say at which input.
  Laid BY PROGRAM, IN A SANDBOX (cutbox-rows.mjs): the forced cells as the released guide's own fill.sh prints them over the translation dcaefe8420051f62… (all of the seat's roots in one cut). By AI agents, Wed Nov 11 2026. No macro, syntax, notation, axiom, sorry.
-/
import Derived.Test.YtcpfooceadgccaaDoorChecked
import GoSem.PinnedTables
import GoSem.Claim
import GoSem.ClaimJoined
import GoSem.ClaimMapViews
import Derived.JoinedTies
import Derived.KernelRfl
namespace Go.Proofs.YtcpfooceadgccaaDoor
/- THE CELL 'sum', in the pinned program and in every row, IS THE sha256 OF THE DUMP (.gsa) THAT YtcpfooceadgccaaDoorProg.lean LOADS. Nothing in Lean hashes anything: it is a label: what it is worth is what the hold of that sum in a sandbox is worth. -/
noncomputable def Tryd.pinned : Pinned := { name := "ytcpfooceadgccaadoor", sum := "dcaefe8420051f62aeb67c8ba0d55e900b95f272aaf00c063b6548e94b724b11", checked := Tryd.checked }
namespace Rows
def none {H : Type} : Left H := { results := [], args := [] }

/- WHAT THE LISTED PACKAGE-LEVEL VARIABLES READ AS WHEN THE CALL BEGINS. Each datum BY PROGRAM (the guide's laid-datum.mjs) off the statement by which the dump's own 'gosem.cut.vars' lays the variable. In a bare row this is a premise. The card (YtcpfooceadgccaaDoorCards.lean) ties it to the program's text. -/
def laid_unicode_utf8_acceptRanges {H : Type} : DataW H := .agg [.agg [.lit (.int .u8 128), .lit (.int .u8 191)], .agg [.lit (.int .u8 160), .lit (.int .u8 191)], .agg [.lit (.int .u8 128), .lit (.int .u8 159)], .agg [.lit (.int .u8 144), .lit (.int .u8 191)], .agg [.lit (.int .u8 128), .lit (.int .u8 143)], .agg [.lit (.int .u8 0), .lit (.int .u8 0)], .agg [.lit (.int .u8 0), .lit (.int .u8 0)], .agg [.lit (.int .u8 0), .lit (.int .u8 0)], .agg [.lit (.int .u8 0), .lit (.int .u8 0)], .agg [.lit (.int .u8 0), .lit (.int .u8 0)], .agg [.lit (.int .u8 0), .lit (.int .u8 0)], .agg [.lit (.int .u8 0), .lit (.int .u8 0)], .agg [.lit (.int .u8 0), .lit (.int .u8 0)], .agg [.lit (.int .u8 0), .lit (.int .u8 0)], .agg [.lit (.int .u8 0), .lit (.int .u8 0)], .agg [.lit (.int .u8 0), .lit (.int .u8 0)]]
/-- One of Go's own tables, pinned by name: the form's constant. -/
def laid_unicode_utf8_first : DataW Unit := Go.Pinned.utf8First

/-- 'orthoepylaw10.DigitsAll': WHATEVER THE INPUT: true; the input reads as it did. -/
def digitsAllSpec : ChangeSpec := { name := "digitsAll", fn := fun _ => fun
  | [d1, d2, d3, d4] => { results := [.lit (.bool true)], args := [d1, d2, d3, d4] }
  | _ => none }
def digitsAllRow : OpenClaim := { program := "ytcpfooceadgccaadoor", sum := "dcaefe8420051f62aeb67c8ba0d55e900b95f272aaf00c063b6548e94b724b11", func := "orthoepy/orthoepylaw10.DigitsAll", spec := "digitsAll", inPlace := ["internal/bytealg.IndexByteString", "internal/bytealg.IndexString", "internal/abi.NoEscape", "internal/bytealg.MakeNoZero", "internal/bytealg.abigen_runtime_cmpstring"], recurses := true, named := ["unicode/utf8.first", "unicode/utf8.acceptRanges", "internal/bytealg.MaxLen"], apart := false, laid := [("unicode/utf8.acceptRanges", laid_unicode_utf8_acceptRanges), ("unicode/utf8.first", laid_unicode_utf8_first)] }
def DigitsAllSaid : Prop := digitsAllRow.holds Tryd.pinned (OpenSpec.ofChange digitsAllSpec)

/-- ITS FALSE NEIGHBOUR: 'it returns false'. Refute it at one input. -/
def digitsAllWrong : ChangeSpec := { name := "digitsAll", fn := fun _ => fun
  | [d1, d2, d3, d4] => { results := [.lit (.bool false)], args := [d1, d2, d3, d4] }
  | _ => none }
def DigitsAllWrongFalsely : Prop := digitsAllRow.holds Tryd.pinned (OpenSpec.ofChange digitsAllWrong)

/-- 'orthoepylaw10.DigitsBack': WHATEVER THE INPUT: true; the input reads as it did. -/
def digitsBackSpec : ChangeSpec := { name := "digitsBack", fn := fun _ => fun
  | [d] => { results := [.lit (.bool true)], args := [d] }
  | _ => none }
def digitsBackRow : OpenClaim := { program := "ytcpfooceadgccaadoor", sum := "dcaefe8420051f62aeb67c8ba0d55e900b95f272aaf00c063b6548e94b724b11", func := "orthoepy/orthoepylaw10.DigitsBack", spec := "digitsBack", inPlace := ["internal/bytealg.IndexByteString", "internal/bytealg.IndexString", "internal/abi.NoEscape", "internal/bytealg.MakeNoZero", "internal/bytealg.abigen_runtime_cmpstring"], named := ["unicode/utf8.first", "unicode/utf8.acceptRanges", "internal/bytealg.MaxLen"], apart := false, laid := [("unicode/utf8.acceptRanges", laid_unicode_utf8_acceptRanges), ("unicode/utf8.first", laid_unicode_utf8_first)] }
def DigitsBackSaid : Prop := digitsBackRow.holds Tryd.pinned (OpenSpec.ofChange digitsBackSpec)

/-- ITS FALSE NEIGHBOUR: 'it returns false'. Refute it at one input. -/
def digitsBackWrong : ChangeSpec := { name := "digitsBack", fn := fun _ => fun
  | [d] => { results := [.lit (.bool false)], args := [d] }
  | _ => none }
def DigitsBackWrongFalsely : Prop := digitsBackRow.holds Tryd.pinned (OpenSpec.ofChange digitsBackWrong)

/-- 'orthoepylaw10.DigitsForms': WHATEVER THE INPUT: true; the input reads as it did. -/
def digitsFormsSpec : ChangeSpec := { name := "digitsForms", fn := fun _ => fun
  | [d1, d2, d3] => { results := [.lit (.bool true)], args := [d1, d2, d3] }
  | _ => none }
def digitsFormsRow : OpenClaim := { program := "ytcpfooceadgccaadoor", sum := "dcaefe8420051f62aeb67c8ba0d55e900b95f272aaf00c063b6548e94b724b11", func := "orthoepy/orthoepylaw10.DigitsForms", spec := "digitsForms", inPlace := ["internal/bytealg.IndexByteString", "internal/bytealg.IndexString", "internal/abi.NoEscape", "internal/bytealg.MakeNoZero", "internal/bytealg.abigen_runtime_cmpstring"], recurses := true, named := ["unicode/utf8.first", "unicode/utf8.acceptRanges", "internal/bytealg.MaxLen"], apart := false, laid := [("unicode/utf8.acceptRanges", laid_unicode_utf8_acceptRanges), ("unicode/utf8.first", laid_unicode_utf8_first)] }
def DigitsFormsSaid : Prop := digitsFormsRow.holds Tryd.pinned (OpenSpec.ofChange digitsFormsSpec)

/-- ITS FALSE NEIGHBOUR: 'it returns false'. Refute it at one input. -/
def digitsFormsWrong : ChangeSpec := { name := "digitsForms", fn := fun _ => fun
  | [d1, d2, d3] => { results := [.lit (.bool false)], args := [d1, d2, d3] }
  | _ => none }
def DigitsFormsWrongFalsely : Prop := digitsFormsRow.holds Tryd.pinned (OpenSpec.ofChange digitsFormsWrong)

/-- 'orthoepylaw10.DigitsNorms': WHATEVER THE INPUT: true; the input reads as it did. -/
def digitsNormsSpec : ChangeSpec := { name := "digitsNorms", fn := fun _ => fun
  | [d1, d2, d3] => { results := [.lit (.bool true)], args := [d1, d2, d3] }
  | _ => none }
def digitsNormsRow : OpenClaim := { program := "ytcpfooceadgccaadoor", sum := "dcaefe8420051f62aeb67c8ba0d55e900b95f272aaf00c063b6548e94b724b11", func := "orthoepy/orthoepylaw10.DigitsNorms", spec := "digitsNorms", inPlace := ["internal/bytealg.IndexByteString", "internal/bytealg.IndexString", "internal/abi.NoEscape", "internal/bytealg.MakeNoZero", "internal/bytealg.abigen_runtime_cmpstring"], named := ["unicode/utf8.first", "unicode/utf8.acceptRanges", "internal/bytealg.MaxLen"], apart := false, laid := [("unicode/utf8.acceptRanges", laid_unicode_utf8_acceptRanges), ("unicode/utf8.first", laid_unicode_utf8_first)] }
def DigitsNormsSaid : Prop := digitsNormsRow.holds Tryd.pinned (OpenSpec.ofChange digitsNormsSpec)

/-- ITS FALSE NEIGHBOUR: 'it returns false'. Refute it at one input. -/
def digitsNormsWrong : ChangeSpec := { name := "digitsNorms", fn := fun _ => fun
  | [d1, d2, d3] => { results := [.lit (.bool false)], args := [d1, d2, d3] }
  | _ => none }
def DigitsNormsWrongFalsely : Prop := digitsNormsRow.holds Tryd.pinned (OpenSpec.ofChange digitsNormsWrong)

/-- 'orthoepylaw10.DigitsOrder': WHATEVER THE INPUT: true; the input reads as it did. -/
def digitsOrderSpec : ChangeSpec := { name := "digitsOrder", fn := fun _ => fun
  | [d1, d2, d3, d4, d5] => { results := [.lit (.bool true)], args := [d1, d2, d3, d4, d5] }
  | _ => none }
def digitsOrderRow : OpenClaim := { program := "ytcpfooceadgccaadoor", sum := "dcaefe8420051f62aeb67c8ba0d55e900b95f272aaf00c063b6548e94b724b11", func := "orthoepy/orthoepylaw10.DigitsOrder", spec := "digitsOrder", inPlace := ["internal/bytealg.IndexByteString", "internal/bytealg.IndexString", "internal/abi.NoEscape", "internal/bytealg.MakeNoZero", "internal/bytealg.abigen_runtime_cmpstring"], recurses := true, named := ["unicode/utf8.first", "unicode/utf8.acceptRanges", "internal/bytealg.MaxLen"], apart := false, laid := [("unicode/utf8.acceptRanges", laid_unicode_utf8_acceptRanges), ("unicode/utf8.first", laid_unicode_utf8_first)] }
def DigitsOrderSaid : Prop := digitsOrderRow.holds Tryd.pinned (OpenSpec.ofChange digitsOrderSpec)

/-- ITS FALSE NEIGHBOUR: 'it returns false'. Refute it at one input. -/
def digitsOrderWrong : ChangeSpec := { name := "digitsOrder", fn := fun _ => fun
  | [d1, d2, d3, d4, d5] => { results := [.lit (.bool false)], args := [d1, d2, d3, d4, d5] }
  | _ => none }
def DigitsOrderWrongFalsely : Prop := digitsOrderRow.holds Tryd.pinned (OpenSpec.ofChange digitsOrderWrong)

/-- 'orthoepylaw11.NumberPlays': WHATEVER THE INPUT: true; the input reads as it did. -/
def numberPlaysSpec : ChangeSpec := { name := "numberPlays", fn := fun _ => fun
  | [d] => { results := [.lit (.bool true)], args := [d] }
  | _ => none }
def numberPlaysRow : OpenClaim := { program := "ytcpfooceadgccaadoor", sum := "dcaefe8420051f62aeb67c8ba0d55e900b95f272aaf00c063b6548e94b724b11", func := "orthoepy/orthoepylaw11.NumberPlays", spec := "numberPlays", inPlace := ["internal/bytealg.IndexByteString", "internal/bytealg.IndexString", "internal/abi.NoEscape", "internal/bytealg.MakeNoZero"], named := ["unicode/utf8.first", "unicode/utf8.acceptRanges", "internal/bytealg.MaxLen"], apart := false, laid := [("unicode/utf8.acceptRanges", laid_unicode_utf8_acceptRanges), ("unicode/utf8.first", laid_unicode_utf8_first)] }
def NumberPlaysSaid : Prop := numberPlaysRow.holds Tryd.pinned (OpenSpec.ofChange numberPlaysSpec)

/-- ITS FALSE NEIGHBOUR: 'it returns false'. Refute it at one input. -/
def numberPlaysWrong : ChangeSpec := { name := "numberPlays", fn := fun _ => fun
  | [d] => { results := [.lit (.bool false)], args := [d] }
  | _ => none }
def NumberPlaysWrongFalsely : Prop := numberPlaysRow.holds Tryd.pinned (OpenSpec.ofChange numberPlaysWrong)

/-- 'orthoepylaw11.NumberReads': WHATEVER THE INPUT: true; the input reads as it did. -/
def numberReadsSpec : ChangeSpec := { name := "numberReads", fn := fun _ => fun
  | [d] => { results := [.lit (.bool true)], args := [d] }
  | _ => none }
def numberReadsRow : OpenClaim := { program := "ytcpfooceadgccaadoor", sum := "dcaefe8420051f62aeb67c8ba0d55e900b95f272aaf00c063b6548e94b724b11", func := "orthoepy/orthoepylaw11.NumberReads", spec := "numberReads", inPlace := ["internal/bytealg.IndexByteString", "internal/bytealg.IndexString", "internal/abi.NoEscape", "internal/bytealg.MakeNoZero"], named := ["unicode/utf8.first", "unicode/utf8.acceptRanges", "internal/bytealg.MaxLen"], apart := false, laid := [("unicode/utf8.acceptRanges", laid_unicode_utf8_acceptRanges), ("unicode/utf8.first", laid_unicode_utf8_first)] }
def NumberReadsSaid : Prop := numberReadsRow.holds Tryd.pinned (OpenSpec.ofChange numberReadsSpec)

/-- ITS FALSE NEIGHBOUR: 'it returns false'. Refute it at one input. -/
def numberReadsWrong : ChangeSpec := { name := "numberReads", fn := fun _ => fun
  | [d] => { results := [.lit (.bool false)], args := [d] }
  | _ => none }
def NumberReadsWrongFalsely : Prop := numberReadsRow.holds Tryd.pinned (OpenSpec.ofChange numberReadsWrong)

/-- 'orthoepylaw11.NumberHopeless': WHATEVER THE INPUT: true; the input reads as it did. -/
def numberHopelessSpec : ChangeSpec := { name := "numberHopeless", fn := fun _ => fun
  | [d1, d2] => { results := [.lit (.bool true)], args := [d1, d2] }
  | _ => none }
def numberHopelessRow : OpenClaim := { program := "ytcpfooceadgccaadoor", sum := "dcaefe8420051f62aeb67c8ba0d55e900b95f272aaf00c063b6548e94b724b11", func := "orthoepy/orthoepylaw11.NumberHopeless", spec := "numberHopeless", inPlace := ["internal/bytealg.IndexByteString", "internal/bytealg.IndexString", "internal/abi.NoEscape", "internal/bytealg.MakeNoZero"], named := ["unicode/utf8.first", "unicode/utf8.acceptRanges", "internal/bytealg.MaxLen"], apart := false, laid := [("unicode/utf8.acceptRanges", laid_unicode_utf8_acceptRanges), ("unicode/utf8.first", laid_unicode_utf8_first)] }
def NumberHopelessSaid : Prop := numberHopelessRow.holds Tryd.pinned (OpenSpec.ofChange numberHopelessSpec)

/-- ITS FALSE NEIGHBOUR: 'it returns false'. Refute it at one input. -/
def numberHopelessWrong : ChangeSpec := { name := "numberHopeless", fn := fun _ => fun
  | [d1, d2] => { results := [.lit (.bool false)], args := [d1, d2] }
  | _ => none }
def NumberHopelessWrongFalsely : Prop := numberHopelessRow.holds Tryd.pinned (OpenSpec.ofChange numberHopelessWrong)

/-- 'orthoepylaw11.NumberEdges': WHATEVER THE INPUT: true; the input reads as it did. -/
def numberEdgesSpec : ChangeSpec := { name := "numberEdges", fn := fun _ => fun
  | [d1, d2, d3, d4] => { results := [.lit (.bool true)], args := [d1, d2, d3, d4] }
  | _ => none }
def numberEdgesRow : OpenClaim := { program := "ytcpfooceadgccaadoor", sum := "dcaefe8420051f62aeb67c8ba0d55e900b95f272aaf00c063b6548e94b724b11", func := "orthoepy/orthoepylaw11.NumberEdges", spec := "numberEdges", inPlace := ["internal/bytealg.IndexByteString", "internal/bytealg.IndexString", "internal/abi.NoEscape", "internal/bytealg.MakeNoZero"], recurses := true, named := ["unicode/utf8.first", "unicode/utf8.acceptRanges", "internal/bytealg.MaxLen"], apart := false, laid := [("unicode/utf8.acceptRanges", laid_unicode_utf8_acceptRanges), ("unicode/utf8.first", laid_unicode_utf8_first)] }
def NumberEdgesSaid : Prop := numberEdgesRow.holds Tryd.pinned (OpenSpec.ofChange numberEdgesSpec)

/-- ITS FALSE NEIGHBOUR: 'it returns false'. Refute it at one input. -/
def numberEdgesWrong : ChangeSpec := { name := "numberEdges", fn := fun _ => fun
  | [d1, d2, d3, d4] => { results := [.lit (.bool false)], args := [d1, d2, d3, d4] }
  | _ => none }
def NumberEdgesWrongFalsely : Prop := numberEdgesRow.holds Tryd.pinned (OpenSpec.ofChange numberEdgesWrong)

/-- 'orthoepylaw11.NumberHopes': WHATEVER THE INPUT: true; the input reads as it did. -/
def numberHopesSpec : ChangeSpec := { name := "numberHopes", fn := fun _ => fun
  | [d] => { results := [.lit (.bool true)], args := [d] }
  | _ => none }
def numberHopesRow : OpenClaim := { program := "ytcpfooceadgccaadoor", sum := "dcaefe8420051f62aeb67c8ba0d55e900b95f272aaf00c063b6548e94b724b11", func := "orthoepy/orthoepylaw11.NumberHopes", spec := "numberHopes", inPlace := ["internal/bytealg.IndexByteString", "internal/bytealg.IndexString", "internal/abi.NoEscape", "internal/bytealg.MakeNoZero"], recurses := true, named := ["unicode/utf8.first", "unicode/utf8.acceptRanges", "internal/bytealg.MaxLen"], apart := false, laid := [("unicode/utf8.acceptRanges", laid_unicode_utf8_acceptRanges), ("unicode/utf8.first", laid_unicode_utf8_first)] }
def NumberHopesSaid : Prop := numberHopesRow.holds Tryd.pinned (OpenSpec.ofChange numberHopesSpec)

/-- ITS FALSE NEIGHBOUR: 'it returns false'. Refute it at one input. -/
def numberHopesWrong : ChangeSpec := { name := "numberHopes", fn := fun _ => fun
  | [d] => { results := [.lit (.bool false)], args := [d] }
  | _ => none }
def NumberHopesWrongFalsely : Prop := numberHopesRow.holds Tryd.pinned (OpenSpec.ofChange numberHopesWrong)

/-- 'orthoepylaw11.NumberCopies': WHATEVER THE INPUT: true; the input reads as it did. -/
def numberCopiesSpec : ChangeSpec := { name := "numberCopies", fn := fun _ => fun
  | [d1, d2, d3] => { results := [.lit (.bool true)], args := [d1, d2, d3] }
  | _ => none }
def numberCopiesRow : OpenClaim := { program := "ytcpfooceadgccaadoor", sum := "dcaefe8420051f62aeb67c8ba0d55e900b95f272aaf00c063b6548e94b724b11", func := "orthoepy/orthoepylaw11.NumberCopies", spec := "numberCopies", inPlace := ["internal/bytealg.IndexByteString", "internal/bytealg.IndexString", "internal/abi.NoEscape", "internal/bytealg.MakeNoZero"], named := ["unicode/utf8.first", "unicode/utf8.acceptRanges", "internal/bytealg.MaxLen"], apart := false, laid := [("unicode/utf8.acceptRanges", laid_unicode_utf8_acceptRanges), ("unicode/utf8.first", laid_unicode_utf8_first)] }
def NumberCopiesSaid : Prop := numberCopiesRow.holds Tryd.pinned (OpenSpec.ofChange numberCopiesSpec)

/-- ITS FALSE NEIGHBOUR: 'it returns false'. Refute it at one input. -/
def numberCopiesWrong : ChangeSpec := { name := "numberCopies", fn := fun _ => fun
  | [d1, d2, d3] => { results := [.lit (.bool false)], args := [d1, d2, d3] }
  | _ => none }
def NumberCopiesWrongFalsely : Prop := numberCopiesRow.holds Tryd.pinned (OpenSpec.ofChange numberCopiesWrong)

/- THE SECOND FORM. 'bulk': how many values and letters a reading holds, each counted each time it is reached (what is shared counts as often as it is met; a slice's spare places count too). A statement '..UptoSaid' is the law's where the arguments, and the package variables that the reading takes, are together of bulk at most 1048576: NARROWER than '..Said'. Prove '..Said' where nothing that the law and all that it calls make is longer than what came in: it says more and counts as full. Else prove '..UptoSaid'. A law counts once. -/
mutual
def uptoBulk {H : Type} : DataW H → Nat
  | .lit (.string bytes) => bytes.length + 1
  | .lit _ => 1
  | .nil => 1
  | .ptr d => uptoBulk d + 1
  | .slice elems spare => uptoBulkAll elems + uptoBulkAll spare + 1
  | .agg parts => uptoBulkAll parts + 1
  | .iface _ d => uptoBulk d + 1
  | .map entries => uptoBulkEntries entries + 1
  | .held _ => 1
def uptoBulkAll {H : Type} : List (DataW H) → Nat
  | [] => 0
  | d :: r => uptoBulk d + uptoBulkAll r
def uptoBulkEntries {H : Type} : List (Lit × DataW H) → Nat
  | [] => 0
  | x :: r => uptoBulkEntry x + uptoBulkEntries r
def uptoBulkEntry {H : Type} : Lit × DataW H → Nat
  | (.string bytes, d) => bytes.length + uptoBulk d + 1
  | (_, d) => uptoBulk d + 1
 end
def uptoSmall : (H : Type) → List (DataW H) → Bool := fun _ ds => decide (uptoBulkAll ds ≤ 1048576)
def OpenSpec.upto (s : _root_.Go.ChangeSpec) : _root_.Go.OpenSpec := { _root_.Go.OpenSpec.ofChange s with cond := some uptoSmall }

/-- 'orthoepylaw10.DigitsAll', WHERE WHAT IT READS IS OF BULK AT MOST 1048576: true; the input reads as it did. -/
def digitsAllUptoRow : OpenClaim := { program := "ytcpfooceadgccaadoor", sum := "dcaefe8420051f62aeb67c8ba0d55e900b95f272aaf00c063b6548e94b724b11", func := "orthoepy/orthoepylaw10.DigitsAll", spec := "digitsAll", inPlace := ["internal/bytealg.IndexByteString", "internal/bytealg.IndexString", "internal/abi.NoEscape", "internal/bytealg.MakeNoZero", "internal/bytealg.abigen_runtime_cmpstring"], recurses := true, named := ["unicode/utf8.first", "unicode/utf8.acceptRanges", "internal/bytealg.MaxLen"], apart := false, laid := [("unicode/utf8.acceptRanges", laid_unicode_utf8_acceptRanges), ("unicode/utf8.first", laid_unicode_utf8_first)], narrowed := true }
def DigitsAllUptoSaid : Prop := digitsAllUptoRow.holds Tryd.pinned (OpenSpec.upto digitsAllSpec)

/-- 'orthoepylaw10.DigitsBack', WHERE WHAT IT READS IS OF BULK AT MOST 1048576: true; the input reads as it did. -/
def digitsBackUptoRow : OpenClaim := { program := "ytcpfooceadgccaadoor", sum := "dcaefe8420051f62aeb67c8ba0d55e900b95f272aaf00c063b6548e94b724b11", func := "orthoepy/orthoepylaw10.DigitsBack", spec := "digitsBack", inPlace := ["internal/bytealg.IndexByteString", "internal/bytealg.IndexString", "internal/abi.NoEscape", "internal/bytealg.MakeNoZero", "internal/bytealg.abigen_runtime_cmpstring"], named := ["unicode/utf8.first", "unicode/utf8.acceptRanges", "internal/bytealg.MaxLen"], apart := false, laid := [("unicode/utf8.acceptRanges", laid_unicode_utf8_acceptRanges), ("unicode/utf8.first", laid_unicode_utf8_first)], narrowed := true }
def DigitsBackUptoSaid : Prop := digitsBackUptoRow.holds Tryd.pinned (OpenSpec.upto digitsBackSpec)

/-- 'orthoepylaw10.DigitsForms', WHERE WHAT IT READS IS OF BULK AT MOST 1048576: true; the input reads as it did. -/
def digitsFormsUptoRow : OpenClaim := { program := "ytcpfooceadgccaadoor", sum := "dcaefe8420051f62aeb67c8ba0d55e900b95f272aaf00c063b6548e94b724b11", func := "orthoepy/orthoepylaw10.DigitsForms", spec := "digitsForms", inPlace := ["internal/bytealg.IndexByteString", "internal/bytealg.IndexString", "internal/abi.NoEscape", "internal/bytealg.MakeNoZero", "internal/bytealg.abigen_runtime_cmpstring"], recurses := true, named := ["unicode/utf8.first", "unicode/utf8.acceptRanges", "internal/bytealg.MaxLen"], apart := false, laid := [("unicode/utf8.acceptRanges", laid_unicode_utf8_acceptRanges), ("unicode/utf8.first", laid_unicode_utf8_first)], narrowed := true }
def DigitsFormsUptoSaid : Prop := digitsFormsUptoRow.holds Tryd.pinned (OpenSpec.upto digitsFormsSpec)

/-- 'orthoepylaw10.DigitsNorms', WHERE WHAT IT READS IS OF BULK AT MOST 1048576: true; the input reads as it did. -/
def digitsNormsUptoRow : OpenClaim := { program := "ytcpfooceadgccaadoor", sum := "dcaefe8420051f62aeb67c8ba0d55e900b95f272aaf00c063b6548e94b724b11", func := "orthoepy/orthoepylaw10.DigitsNorms", spec := "digitsNorms", inPlace := ["internal/bytealg.IndexByteString", "internal/bytealg.IndexString", "internal/abi.NoEscape", "internal/bytealg.MakeNoZero", "internal/bytealg.abigen_runtime_cmpstring"], named := ["unicode/utf8.first", "unicode/utf8.acceptRanges", "internal/bytealg.MaxLen"], apart := false, laid := [("unicode/utf8.acceptRanges", laid_unicode_utf8_acceptRanges), ("unicode/utf8.first", laid_unicode_utf8_first)], narrowed := true }
def DigitsNormsUptoSaid : Prop := digitsNormsUptoRow.holds Tryd.pinned (OpenSpec.upto digitsNormsSpec)

/-- 'orthoepylaw10.DigitsOrder', WHERE WHAT IT READS IS OF BULK AT MOST 1048576: true; the input reads as it did. -/
def digitsOrderUptoRow : OpenClaim := { program := "ytcpfooceadgccaadoor", sum := "dcaefe8420051f62aeb67c8ba0d55e900b95f272aaf00c063b6548e94b724b11", func := "orthoepy/orthoepylaw10.DigitsOrder", spec := "digitsOrder", inPlace := ["internal/bytealg.IndexByteString", "internal/bytealg.IndexString", "internal/abi.NoEscape", "internal/bytealg.MakeNoZero", "internal/bytealg.abigen_runtime_cmpstring"], recurses := true, named := ["unicode/utf8.first", "unicode/utf8.acceptRanges", "internal/bytealg.MaxLen"], apart := false, laid := [("unicode/utf8.acceptRanges", laid_unicode_utf8_acceptRanges), ("unicode/utf8.first", laid_unicode_utf8_first)], narrowed := true }
def DigitsOrderUptoSaid : Prop := digitsOrderUptoRow.holds Tryd.pinned (OpenSpec.upto digitsOrderSpec)

/-- 'orthoepylaw11.NumberPlays', WHERE WHAT IT READS IS OF BULK AT MOST 1048576: true; the input reads as it did. -/
def numberPlaysUptoRow : OpenClaim := { program := "ytcpfooceadgccaadoor", sum := "dcaefe8420051f62aeb67c8ba0d55e900b95f272aaf00c063b6548e94b724b11", func := "orthoepy/orthoepylaw11.NumberPlays", spec := "numberPlays", inPlace := ["internal/bytealg.IndexByteString", "internal/bytealg.IndexString", "internal/abi.NoEscape", "internal/bytealg.MakeNoZero"], named := ["unicode/utf8.first", "unicode/utf8.acceptRanges", "internal/bytealg.MaxLen"], apart := false, laid := [("unicode/utf8.acceptRanges", laid_unicode_utf8_acceptRanges), ("unicode/utf8.first", laid_unicode_utf8_first)], narrowed := true }
def NumberPlaysUptoSaid : Prop := numberPlaysUptoRow.holds Tryd.pinned (OpenSpec.upto numberPlaysSpec)

/-- 'orthoepylaw11.NumberReads', WHERE WHAT IT READS IS OF BULK AT MOST 1048576: true; the input reads as it did. -/
def numberReadsUptoRow : OpenClaim := { program := "ytcpfooceadgccaadoor", sum := "dcaefe8420051f62aeb67c8ba0d55e900b95f272aaf00c063b6548e94b724b11", func := "orthoepy/orthoepylaw11.NumberReads", spec := "numberReads", inPlace := ["internal/bytealg.IndexByteString", "internal/bytealg.IndexString", "internal/abi.NoEscape", "internal/bytealg.MakeNoZero"], named := ["unicode/utf8.first", "unicode/utf8.acceptRanges", "internal/bytealg.MaxLen"], apart := false, laid := [("unicode/utf8.acceptRanges", laid_unicode_utf8_acceptRanges), ("unicode/utf8.first", laid_unicode_utf8_first)], narrowed := true }
def NumberReadsUptoSaid : Prop := numberReadsUptoRow.holds Tryd.pinned (OpenSpec.upto numberReadsSpec)

/-- 'orthoepylaw11.NumberHopeless', WHERE WHAT IT READS IS OF BULK AT MOST 1048576: true; the input reads as it did. -/
def numberHopelessUptoRow : OpenClaim := { program := "ytcpfooceadgccaadoor", sum := "dcaefe8420051f62aeb67c8ba0d55e900b95f272aaf00c063b6548e94b724b11", func := "orthoepy/orthoepylaw11.NumberHopeless", spec := "numberHopeless", inPlace := ["internal/bytealg.IndexByteString", "internal/bytealg.IndexString", "internal/abi.NoEscape", "internal/bytealg.MakeNoZero"], named := ["unicode/utf8.first", "unicode/utf8.acceptRanges", "internal/bytealg.MaxLen"], apart := false, laid := [("unicode/utf8.acceptRanges", laid_unicode_utf8_acceptRanges), ("unicode/utf8.first", laid_unicode_utf8_first)], narrowed := true }
def NumberHopelessUptoSaid : Prop := numberHopelessUptoRow.holds Tryd.pinned (OpenSpec.upto numberHopelessSpec)

/-- 'orthoepylaw11.NumberEdges', WHERE WHAT IT READS IS OF BULK AT MOST 1048576: true; the input reads as it did. -/
def numberEdgesUptoRow : OpenClaim := { program := "ytcpfooceadgccaadoor", sum := "dcaefe8420051f62aeb67c8ba0d55e900b95f272aaf00c063b6548e94b724b11", func := "orthoepy/orthoepylaw11.NumberEdges", spec := "numberEdges", inPlace := ["internal/bytealg.IndexByteString", "internal/bytealg.IndexString", "internal/abi.NoEscape", "internal/bytealg.MakeNoZero"], recurses := true, named := ["unicode/utf8.first", "unicode/utf8.acceptRanges", "internal/bytealg.MaxLen"], apart := false, laid := [("unicode/utf8.acceptRanges", laid_unicode_utf8_acceptRanges), ("unicode/utf8.first", laid_unicode_utf8_first)], narrowed := true }
def NumberEdgesUptoSaid : Prop := numberEdgesUptoRow.holds Tryd.pinned (OpenSpec.upto numberEdgesSpec)

/-- 'orthoepylaw11.NumberHopes', WHERE WHAT IT READS IS OF BULK AT MOST 1048576: true; the input reads as it did. -/
def numberHopesUptoRow : OpenClaim := { program := "ytcpfooceadgccaadoor", sum := "dcaefe8420051f62aeb67c8ba0d55e900b95f272aaf00c063b6548e94b724b11", func := "orthoepy/orthoepylaw11.NumberHopes", spec := "numberHopes", inPlace := ["internal/bytealg.IndexByteString", "internal/bytealg.IndexString", "internal/abi.NoEscape", "internal/bytealg.MakeNoZero"], recurses := true, named := ["unicode/utf8.first", "unicode/utf8.acceptRanges", "internal/bytealg.MaxLen"], apart := false, laid := [("unicode/utf8.acceptRanges", laid_unicode_utf8_acceptRanges), ("unicode/utf8.first", laid_unicode_utf8_first)], narrowed := true }
def NumberHopesUptoSaid : Prop := numberHopesUptoRow.holds Tryd.pinned (OpenSpec.upto numberHopesSpec)

/-- 'orthoepylaw11.NumberCopies', WHERE WHAT IT READS IS OF BULK AT MOST 1048576: true; the input reads as it did. -/
def numberCopiesUptoRow : OpenClaim := { program := "ytcpfooceadgccaadoor", sum := "dcaefe8420051f62aeb67c8ba0d55e900b95f272aaf00c063b6548e94b724b11", func := "orthoepy/orthoepylaw11.NumberCopies", spec := "numberCopies", inPlace := ["internal/bytealg.IndexByteString", "internal/bytealg.IndexString", "internal/abi.NoEscape", "internal/bytealg.MakeNoZero"], named := ["unicode/utf8.first", "unicode/utf8.acceptRanges", "internal/bytealg.MaxLen"], apart := false, laid := [("unicode/utf8.acceptRanges", laid_unicode_utf8_acceptRanges), ("unicode/utf8.first", laid_unicode_utf8_first)], narrowed := true }
def NumberCopiesUptoSaid : Prop := numberCopiesUptoRow.holds Tryd.pinned (OpenSpec.upto numberCopiesSpec)

end Rows
end Go.Proofs.YtcpfooceadgccaaDoor
