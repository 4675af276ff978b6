/-
  No cell of these rows narrows 'for every input' (looked for: loops, veiled, ifaces, maps, wideKeys, modest, calm, conditions, laid).
  DERIVED. THE GIVEN ROWS OF THIS SEAT. 10 by the template 'for every input the law returns true; each argument reads behind the call as it read before'; 0 by the template 'total and deterministic' (their statements: YtgjddlianhejdaaTotals.lean).
  GIVEN WITH THE SEED: the statements are not yours to turn. If you find one false, say at which input.
  Laid BY PROGRAM, IN A SANDBOX (cutbox-rows.mjs): the forced cells as the released guide's own fill.sh prints them over the translation 2c66d953d8a3fcd2… (all of the seat's roots in one cut). By AI agents, Wed Nov 11 2026. No macro, syntax, notation, axiom, sorry.
-/
import Derived.Test.YtgjddlianhejdaaChecked
import GoSem.Claim
import GoSem.ClaimJoined
import GoSem.ClaimMapViews
import Derived.JoinedTies
import Derived.KernelRfl
namespace Go.Proofs.Ytgjddlianhejdaa
/- THE CELL 'sum', in the pinned program and in every row, IS THE sha256 OF THE DUMP (.gsa) THAT YtgjddlianhejdaaProg.lean LOADS. Nothing in Lean hashes anything: it is a label: what it is worth is what the hold of that sum in a sandbox is worth. -/
noncomputable def Try.pinned : Pinned := { name := "ytgjddlianhejdaa", sum := "2c66d953d8a3fcd2ce665c96e60352bc35adb0a1c09c809d9daae1157a9fc00a", checked := Try.checked }
namespace Rows
def none {H : Type} : Left H := { results := [], args := [] }

/-- 'orthoepylaw15.LimitChecks': WHATEVER THE INPUT: true; the input reads as it did. -/
def limitChecksSpec : ChangeSpec := { name := "limitChecks", fn := fun _ => fun
  | [d1, d2] => { results := [.lit (.bool true)], args := [d1, d2] }
  | _ => none }
def limitChecksRow : OpenClaim := { program := "ytgjddlianhejdaa", sum := "2c66d953d8a3fcd2ce665c96e60352bc35adb0a1c09c809d9daae1157a9fc00a", func := "orthoepy/orthoepylaw15.LimitChecks", spec := "limitChecks", plainKeys := false, apart := false }
def LimitChecksSaid : Prop := limitChecksRow.holds Try.pinned (OpenSpec.ofChange limitChecksSpec)

/-- ITS FALSE NEIGHBOUR: 'it returns false'. Refute it at one input. -/
def limitChecksWrong : ChangeSpec := { name := "limitChecks", fn := fun _ => fun
  | [d1, d2] => { results := [.lit (.bool false)], args := [d1, d2] }
  | _ => none }
def LimitChecksWrongFalsely : Prop := limitChecksRow.holds Try.pinned (OpenSpec.ofChange limitChecksWrong)

/-- 'orthoepylaw04.StageAll': WHATEVER THE INPUT: true; the input reads as it did. -/
def stageAllSpec : ChangeSpec := { name := "stageAll", fn := fun _ => fun
  | [d1, d2] => { results := [.lit (.bool true)], args := [d1, d2] }
  | _ => none }
def stageAllRow : OpenClaim := { program := "ytgjddlianhejdaa", sum := "2c66d953d8a3fcd2ce665c96e60352bc35adb0a1c09c809d9daae1157a9fc00a", func := "orthoepy/orthoepylaw04.StageAll", spec := "stageAll", plainKeys := false, apart := false }
def StageAllSaid : Prop := stageAllRow.holds Try.pinned (OpenSpec.ofChange stageAllSpec)

/-- ITS FALSE NEIGHBOUR: 'it returns false'. Refute it at one input. -/
def stageAllWrong : ChangeSpec := { name := "stageAll", fn := fun _ => fun
  | [d1, d2] => { results := [.lit (.bool false)], args := [d1, d2] }
  | _ => none }
def StageAllWrongFalsely : Prop := stageAllRow.holds Try.pinned (OpenSpec.ofChange stageAllWrong)

/-- 'orthoepylaw04.StageLast': WHATEVER THE INPUT: true; the input reads as it did. -/
def stageLastSpec : ChangeSpec := { name := "stageLast", fn := fun _ => fun
  | [d1, d2, d3] => { results := [.lit (.bool true)], args := [d1, d2, d3] }
  | _ => none }
def stageLastRow : OpenClaim := { program := "ytgjddlianhejdaa", sum := "2c66d953d8a3fcd2ce665c96e60352bc35adb0a1c09c809d9daae1157a9fc00a", func := "orthoepy/orthoepylaw04.StageLast", spec := "stageLast", plainKeys := false, apart := false }
def StageLastSaid : Prop := stageLastRow.holds Try.pinned (OpenSpec.ofChange stageLastSpec)

/-- ITS FALSE NEIGHBOUR: 'it returns false'. Refute it at one input. -/
def stageLastWrong : ChangeSpec := { name := "stageLast", fn := fun _ => fun
  | [d1, d2, d3] => { results := [.lit (.bool false)], args := [d1, d2, d3] }
  | _ => none }
def StageLastWrongFalsely : Prop := stageLastRow.holds Try.pinned (OpenSpec.ofChange stageLastWrong)

/-- 'orthoepylaw04.StageBlocks': WHATEVER THE INPUT: true; the input reads as it did. -/
def stageBlocksSpec : ChangeSpec := { name := "stageBlocks", fn := fun _ => fun
  | [d1, d2, d3] => { results := [.lit (.bool true)], args := [d1, d2, d3] }
  | _ => none }
def stageBlocksRow : OpenClaim := { program := "ytgjddlianhejdaa", sum := "2c66d953d8a3fcd2ce665c96e60352bc35adb0a1c09c809d9daae1157a9fc00a", func := "orthoepy/orthoepylaw04.StageBlocks", spec := "stageBlocks", plainKeys := false, apart := false }
def StageBlocksSaid : Prop := stageBlocksRow.holds Try.pinned (OpenSpec.ofChange stageBlocksSpec)

/-- ITS FALSE NEIGHBOUR: 'it returns false'. Refute it at one input. -/
def stageBlocksWrong : ChangeSpec := { name := "stageBlocks", fn := fun _ => fun
  | [d1, d2, d3] => { results := [.lit (.bool false)], args := [d1, d2, d3] }
  | _ => none }
def StageBlocksWrongFalsely : Prop := stageBlocksRow.holds Try.pinned (OpenSpec.ofChange stageBlocksWrong)

/-- 'orthoepylaw15.LimitPlays': WHATEVER THE INPUT: true; the input reads as it did. -/
def limitPlaysSpec : ChangeSpec := { name := "limitPlays", fn := fun _ => fun
  | [d1, d2] => { results := [.lit (.bool true)], args := [d1, d2] }
  | _ => none }
def limitPlaysRow : OpenClaim := { program := "ytgjddlianhejdaa", sum := "2c66d953d8a3fcd2ce665c96e60352bc35adb0a1c09c809d9daae1157a9fc00a", func := "orthoepy/orthoepylaw15.LimitPlays", spec := "limitPlays", plainKeys := false, apart := false }
def LimitPlaysSaid : Prop := limitPlaysRow.holds Try.pinned (OpenSpec.ofChange limitPlaysSpec)

/-- ITS FALSE NEIGHBOUR: 'it returns false'. Refute it at one input. -/
def limitPlaysWrong : ChangeSpec := { name := "limitPlays", fn := fun _ => fun
  | [d1, d2] => { results := [.lit (.bool false)], args := [d1, d2] }
  | _ => none }
def LimitPlaysWrongFalsely : Prop := limitPlaysRow.holds Try.pinned (OpenSpec.ofChange limitPlaysWrong)

/-- 'orthoepylaw15.LimitBounds': WHATEVER THE INPUT: true; the input reads as it did. -/
def limitBoundsSpec : ChangeSpec := { name := "limitBounds", fn := fun _ => fun
  | [d1, d2] => { results := [.lit (.bool true)], args := [d1, d2] }
  | _ => none }
def limitBoundsRow : OpenClaim := { program := "ytgjddlianhejdaa", sum := "2c66d953d8a3fcd2ce665c96e60352bc35adb0a1c09c809d9daae1157a9fc00a", func := "orthoepy/orthoepylaw15.LimitBounds", spec := "limitBounds", plainKeys := false, apart := false }
def LimitBoundsSaid : Prop := limitBoundsRow.holds Try.pinned (OpenSpec.ofChange limitBoundsSpec)

/-- ITS FALSE NEIGHBOUR: 'it returns false'. Refute it at one input. -/
def limitBoundsWrong : ChangeSpec := { name := "limitBounds", fn := fun _ => fun
  | [d1, d2] => { results := [.lit (.bool false)], args := [d1, d2] }
  | _ => none }
def LimitBoundsWrongFalsely : Prop := limitBoundsRow.holds Try.pinned (OpenSpec.ofChange limitBoundsWrong)

/-- 'orthoepylaw13.GramTexts': WHATEVER THE INPUT: true; the input reads as it did. -/
def gramTextsSpec : ChangeSpec := { name := "gramTexts", fn := fun _ => fun
  | [d] => { results := [.lit (.bool true)], args := [d] }
  | _ => none }
def gramTextsRow : OpenClaim := { program := "ytgjddlianhejdaa", sum := "2c66d953d8a3fcd2ce665c96e60352bc35adb0a1c09c809d9daae1157a9fc00a", func := "orthoepy/orthoepylaw13.GramTexts", spec := "gramTexts", recurses := true, plainKeys := false, apart := false }
def GramTextsSaid : Prop := gramTextsRow.holds Try.pinned (OpenSpec.ofChange gramTextsSpec)

/-- ITS FALSE NEIGHBOUR: 'it returns false'. Refute it at one input. -/
def gramTextsWrong : ChangeSpec := { name := "gramTexts", fn := fun _ => fun
  | [d] => { results := [.lit (.bool false)], args := [d] }
  | _ => none }
def GramTextsWrongFalsely : Prop := gramTextsRow.holds Try.pinned (OpenSpec.ofChange gramTextsWrong)

/-- 'orthoepylaw13.GramHopes': WHATEVER THE INPUT: true; the input reads as it did. -/
def gramHopesSpec : ChangeSpec := { name := "gramHopes", fn := fun _ => fun
  | [d] => { results := [.lit (.bool true)], args := [d] }
  | _ => none }
def gramHopesRow : OpenClaim := { program := "ytgjddlianhejdaa", sum := "2c66d953d8a3fcd2ce665c96e60352bc35adb0a1c09c809d9daae1157a9fc00a", func := "orthoepy/orthoepylaw13.GramHopes", spec := "gramHopes", plainKeys := false, apart := false }
def GramHopesSaid : Prop := gramHopesRow.holds Try.pinned (OpenSpec.ofChange gramHopesSpec)

/-- ITS FALSE NEIGHBOUR: 'it returns false'. Refute it at one input. -/
def gramHopesWrong : ChangeSpec := { name := "gramHopes", fn := fun _ => fun
  | [d] => { results := [.lit (.bool false)], args := [d] }
  | _ => none }
def GramHopesWrongFalsely : Prop := gramHopesRow.holds Try.pinned (OpenSpec.ofChange gramHopesWrong)

/-- 'orthoepylaw13.GramFirst': WHATEVER THE INPUT: true; the input reads as it did. -/
def gramFirstSpec : ChangeSpec := { name := "gramFirst", fn := fun _ => fun
  | [d] => { results := [.lit (.bool true)], args := [d] }
  | _ => none }
def gramFirstRow : OpenClaim := { program := "ytgjddlianhejdaa", sum := "2c66d953d8a3fcd2ce665c96e60352bc35adb0a1c09c809d9daae1157a9fc00a", func := "orthoepy/orthoepylaw13.GramFirst", spec := "gramFirst", plainKeys := false, apart := false }
def GramFirstSaid : Prop := gramFirstRow.holds Try.pinned (OpenSpec.ofChange gramFirstSpec)

/-- ITS FALSE NEIGHBOUR: 'it returns false'. Refute it at one input. -/
def gramFirstWrong : ChangeSpec := { name := "gramFirst", fn := fun _ => fun
  | [d] => { results := [.lit (.bool false)], args := [d] }
  | _ => none }
def GramFirstWrongFalsely : Prop := gramFirstRow.holds Try.pinned (OpenSpec.ofChange gramFirstWrong)

/-- 'orthoepylaw13.GramPlays': WHATEVER THE INPUT: true; the input reads as it did. -/
def gramPlaysSpec : ChangeSpec := { name := "gramPlays", fn := fun _ => fun
  | [d] => { results := [.lit (.bool true)], args := [d] }
  | _ => none }
def gramPlaysRow : OpenClaim := { program := "ytgjddlianhejdaa", sum := "2c66d953d8a3fcd2ce665c96e60352bc35adb0a1c09c809d9daae1157a9fc00a", func := "orthoepy/orthoepylaw13.GramPlays", spec := "gramPlays", plainKeys := false, apart := false }
def GramPlaysSaid : Prop := gramPlaysRow.holds Try.pinned (OpenSpec.ofChange gramPlaysSpec)

/-- ITS FALSE NEIGHBOUR: 'it returns false'. Refute it at one input. -/
def gramPlaysWrong : ChangeSpec := { name := "gramPlays", fn := fun _ => fun
  | [d] => { results := [.lit (.bool false)], args := [d] }
  | _ => none }
def GramPlaysWrongFalsely : Prop := gramPlaysRow.holds Try.pinned (OpenSpec.ofChange gramPlaysWrong)

/- THE SECOND FORM. 'bulk': how many values and letters a reading holds, each counted each time it is reached (what is shared counts as often as it is met; a slice's spare places count too). A statement '..UptoSaid' is the law's where the arguments, and the package variables that the reading takes, are together of bulk at most 1048576: NARROWER than '..Said'. Prove '..Said' where nothing that the law and all that it calls make is longer than what came in: it says more and counts as full. Else prove '..UptoSaid'. A law counts once. -/
mutual
def uptoBulk {H : Type} : DataW H → Nat
  | .lit (.string bytes) => bytes.length + 1
  | .lit _ => 1
  | .nil => 1
  | .ptr d => uptoBulk d + 1
  | .slice elems spare => uptoBulkAll elems + uptoBulkAll spare + 1
  | .agg parts => uptoBulkAll parts + 1
  | .iface _ d => uptoBulk d + 1
  | .map entries => uptoBulkEntries entries + 1
  | .held _ => 1
def uptoBulkAll {H : Type} : List (DataW H) → Nat
  | [] => 0
  | d :: r => uptoBulk d + uptoBulkAll r
def uptoBulkEntries {H : Type} : List (Lit × DataW H) → Nat
  | [] => 0
  | x :: r => uptoBulkEntry x + uptoBulkEntries r
def uptoBulkEntry {H : Type} : Lit × DataW H → Nat
  | (.string bytes, d) => bytes.length + uptoBulk d + 1
  | (_, d) => uptoBulk d + 1
 end
def uptoSmall : (H : Type) → List (DataW H) → Bool := fun _ ds => decide (uptoBulkAll ds ≤ 1048576)
def OpenSpec.upto (s : _root_.Go.ChangeSpec) : _root_.Go.OpenSpec := { _root_.Go.OpenSpec.ofChange s with cond := some uptoSmall }

/-- 'orthoepylaw15.LimitChecks', WHERE WHAT IT READS IS OF BULK AT MOST 1048576: true; the input reads as it did. -/
def limitChecksUptoRow : OpenClaim := { program := "ytgjddlianhejdaa", sum := "2c66d953d8a3fcd2ce665c96e60352bc35adb0a1c09c809d9daae1157a9fc00a", func := "orthoepy/orthoepylaw15.LimitChecks", spec := "limitChecks", plainKeys := false, apart := false, narrowed := true }
def LimitChecksUptoSaid : Prop := limitChecksUptoRow.holds Try.pinned (OpenSpec.upto limitChecksSpec)

/-- 'orthoepylaw04.StageAll', WHERE WHAT IT READS IS OF BULK AT MOST 1048576: true; the input reads as it did. -/
def stageAllUptoRow : OpenClaim := { program := "ytgjddlianhejdaa", sum := "2c66d953d8a3fcd2ce665c96e60352bc35adb0a1c09c809d9daae1157a9fc00a", func := "orthoepy/orthoepylaw04.StageAll", spec := "stageAll", plainKeys := false, apart := false, narrowed := true }
def StageAllUptoSaid : Prop := stageAllUptoRow.holds Try.pinned (OpenSpec.upto stageAllSpec)

/-- 'orthoepylaw04.StageLast', WHERE WHAT IT READS IS OF BULK AT MOST 1048576: true; the input reads as it did. -/
def stageLastUptoRow : OpenClaim := { program := "ytgjddlianhejdaa", sum := "2c66d953d8a3fcd2ce665c96e60352bc35adb0a1c09c809d9daae1157a9fc00a", func := "orthoepy/orthoepylaw04.StageLast", spec := "stageLast", plainKeys := false, apart := false, narrowed := true }
def StageLastUptoSaid : Prop := stageLastUptoRow.holds Try.pinned (OpenSpec.upto stageLastSpec)

/-- 'orthoepylaw04.StageBlocks', WHERE WHAT IT READS IS OF BULK AT MOST 1048576: true; the input reads as it did. -/
def stageBlocksUptoRow : OpenClaim := { program := "ytgjddlianhejdaa", sum := "2c66d953d8a3fcd2ce665c96e60352bc35adb0a1c09c809d9daae1157a9fc00a", func := "orthoepy/orthoepylaw04.StageBlocks", spec := "stageBlocks", plainKeys := false, apart := false, narrowed := true }
def StageBlocksUptoSaid : Prop := stageBlocksUptoRow.holds Try.pinned (OpenSpec.upto stageBlocksSpec)

/-- 'orthoepylaw15.LimitPlays', WHERE WHAT IT READS IS OF BULK AT MOST 1048576: true; the input reads as it did. -/
def limitPlaysUptoRow : OpenClaim := { program := "ytgjddlianhejdaa", sum := "2c66d953d8a3fcd2ce665c96e60352bc35adb0a1c09c809d9daae1157a9fc00a", func := "orthoepy/orthoepylaw15.LimitPlays", spec := "limitPlays", plainKeys := false, apart := false, narrowed := true }
def LimitPlaysUptoSaid : Prop := limitPlaysUptoRow.holds Try.pinned (OpenSpec.upto limitPlaysSpec)

/-- 'orthoepylaw15.LimitBounds', WHERE WHAT IT READS IS OF BULK AT MOST 1048576: true; the input reads as it did. -/
def limitBoundsUptoRow : OpenClaim := { program := "ytgjddlianhejdaa", sum := "2c66d953d8a3fcd2ce665c96e60352bc35adb0a1c09c809d9daae1157a9fc00a", func := "orthoepy/orthoepylaw15.LimitBounds", spec := "limitBounds", plainKeys := false, apart := false, narrowed := true }
def LimitBoundsUptoSaid : Prop := limitBoundsUptoRow.holds Try.pinned (OpenSpec.upto limitBoundsSpec)

/-- 'orthoepylaw13.GramTexts', WHERE WHAT IT READS IS OF BULK AT MOST 1048576: true; the input reads as it did. -/
def gramTextsUptoRow : OpenClaim := { program := "ytgjddlianhejdaa", sum := "2c66d953d8a3fcd2ce665c96e60352bc35adb0a1c09c809d9daae1157a9fc00a", func := "orthoepy/orthoepylaw13.GramTexts", spec := "gramTexts", recurses := true, plainKeys := false, apart := false, narrowed := true }
def GramTextsUptoSaid : Prop := gramTextsUptoRow.holds Try.pinned (OpenSpec.upto gramTextsSpec)

/-- 'orthoepylaw13.GramHopes', WHERE WHAT IT READS IS OF BULK AT MOST 1048576: true; the input reads as it did. -/
def gramHopesUptoRow : OpenClaim := { program := "ytgjddlianhejdaa", sum := "2c66d953d8a3fcd2ce665c96e60352bc35adb0a1c09c809d9daae1157a9fc00a", func := "orthoepy/orthoepylaw13.GramHopes", spec := "gramHopes", plainKeys := false, apart := false, narrowed := true }
def GramHopesUptoSaid : Prop := gramHopesUptoRow.holds Try.pinned (OpenSpec.upto gramHopesSpec)

/-- 'orthoepylaw13.GramFirst', WHERE WHAT IT READS IS OF BULK AT MOST 1048576: true; the input reads as it did. -/
def gramFirstUptoRow : OpenClaim := { program := "ytgjddlianhejdaa", sum := "2c66d953d8a3fcd2ce665c96e60352bc35adb0a1c09c809d9daae1157a9fc00a", func := "orthoepy/orthoepylaw13.GramFirst", spec := "gramFirst", plainKeys := false, apart := false, narrowed := true }
def GramFirstUptoSaid : Prop := gramFirstUptoRow.holds Try.pinned (OpenSpec.upto gramFirstSpec)

/-- 'orthoepylaw13.GramPlays', WHERE WHAT IT READS IS OF BULK AT MOST 1048576: true; the input reads as it did. -/
def gramPlaysUptoRow : OpenClaim := { program := "ytgjddlianhejdaa", sum := "2c66d953d8a3fcd2ce665c96e60352bc35adb0a1c09c809d9daae1157a9fc00a", func := "orthoepy/orthoepylaw13.GramPlays", spec := "gramPlays", plainKeys := false, apart := false, narrowed := true }
def GramPlaysUptoSaid : Prop := gramPlaysUptoRow.holds Try.pinned (OpenSpec.upto gramPlaysSpec)

end Rows
end Go.Proofs.Ytgjddlianhejdaa
