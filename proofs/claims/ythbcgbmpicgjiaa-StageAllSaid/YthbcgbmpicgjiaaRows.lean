/-
  No cell of these rows narrows 'for every input' (looked for: loops, veiled, ifaces, maps, wideKeys, modest, calm, conditions, laid).
  DERIVED. THE GIVEN ROWS OF THIS SEAT. 3 by the template 'for every input the law returns true; each argument reads behind the call as it read before'; 0 by the template 'total and deterministic' (their statements: YthbcgbmpicgjiaaTotals.lean).
  GIVEN WITH THE SEED: the statements are not yours to turn. If you find one false, say at which input.
  Laid BY PROGRAM, IN A SANDBOX (cutbox-rows.mjs): the forced cells as the released guide's own fill.sh prints them over the translation e6fddf0c88188d1f… (all of the seat's roots in one cut). By AI agents, Wed Nov 11 2026. No macro, syntax, notation, axiom, sorry.
-/
import Derived.Test.YthbcgbmpicgjiaaChecked
import GoSem.Claim
import GoSem.ClaimJoined
import GoSem.ClaimMapViews
import Derived.JoinedTies
import Derived.KernelRfl
namespace Go.Proofs.Ythbcgbmpicgjiaa
/- THE CELL 'sum', in the pinned program and in every row, IS THE sha256 OF THE DUMP (.gsa) THAT YthbcgbmpicgjiaaProg.lean LOADS. Nothing in Lean hashes anything: it is a label: what it is worth is what the hold of that sum in a sandbox is worth. -/
noncomputable def Try.pinned : Pinned := { name := "ythbcgbmpicgjiaa", sum := "e6fddf0c88188d1ffafb26e3fff7488cbd9d23766927f60e22283ca91a5f6367", checked := Try.checked }
namespace Rows
def none {H : Type} : Left H := { results := [], args := [] }

/-- 'orthoepylaw04.StageAll': WHATEVER THE INPUT: true; the input reads as it did. -/
def stageAllSpec : ChangeSpec := { name := "stageAll", fn := fun _ => fun
  | [d1, d2] => { results := [.lit (.bool true)], args := [d1, d2] }
  | _ => none }
def stageAllRow : OpenClaim := { program := "ythbcgbmpicgjiaa", sum := "e6fddf0c88188d1ffafb26e3fff7488cbd9d23766927f60e22283ca91a5f6367", func := "orthoepy/orthoepylaw04.StageAll", spec := "stageAll", plainKeys := false, apart := false }
def StageAllSaid : Prop := stageAllRow.holds Try.pinned (OpenSpec.ofChange stageAllSpec)

/-- ITS FALSE NEIGHBOUR: 'it returns false'. Refute it at one input. -/
def stageAllWrong : ChangeSpec := { name := "stageAll", fn := fun _ => fun
  | [d1, d2] => { results := [.lit (.bool false)], args := [d1, d2] }
  | _ => none }
def StageAllWrongFalsely : Prop := stageAllRow.holds Try.pinned (OpenSpec.ofChange stageAllWrong)

/-- 'orthoepylaw04.StageLast': WHATEVER THE INPUT: true; the input reads as it did. -/
def stageLastSpec : ChangeSpec := { name := "stageLast", fn := fun _ => fun
  | [d1, d2, d3] => { results := [.lit (.bool true)], args := [d1, d2, d3] }
  | _ => none }
def stageLastRow : OpenClaim := { program := "ythbcgbmpicgjiaa", sum := "e6fddf0c88188d1ffafb26e3fff7488cbd9d23766927f60e22283ca91a5f6367", func := "orthoepy/orthoepylaw04.StageLast", spec := "stageLast", plainKeys := false, apart := false }
def StageLastSaid : Prop := stageLastRow.holds Try.pinned (OpenSpec.ofChange stageLastSpec)

/-- ITS FALSE NEIGHBOUR: 'it returns false'. Refute it at one input. -/
def stageLastWrong : ChangeSpec := { name := "stageLast", fn := fun _ => fun
  | [d1, d2, d3] => { results := [.lit (.bool false)], args := [d1, d2, d3] }
  | _ => none }
def StageLastWrongFalsely : Prop := stageLastRow.holds Try.pinned (OpenSpec.ofChange stageLastWrong)

/-- 'orthoepylaw04.StageBlocks': WHATEVER THE INPUT: true; the input reads as it did. -/
def stageBlocksSpec : ChangeSpec := { name := "stageBlocks", fn := fun _ => fun
  | [d1, d2, d3] => { results := [.lit (.bool true)], args := [d1, d2, d3] }
  | _ => none }
def stageBlocksRow : OpenClaim := { program := "ythbcgbmpicgjiaa", sum := "e6fddf0c88188d1ffafb26e3fff7488cbd9d23766927f60e22283ca91a5f6367", func := "orthoepy/orthoepylaw04.StageBlocks", spec := "stageBlocks", plainKeys := false, apart := false }
def StageBlocksSaid : Prop := stageBlocksRow.holds Try.pinned (OpenSpec.ofChange stageBlocksSpec)

/-- ITS FALSE NEIGHBOUR: 'it returns false'. Refute it at one input. -/
def stageBlocksWrong : ChangeSpec := { name := "stageBlocks", fn := fun _ => fun
  | [d1, d2, d3] => { results := [.lit (.bool false)], args := [d1, d2, d3] }
  | _ => none }
def StageBlocksWrongFalsely : Prop := stageBlocksRow.holds Try.pinned (OpenSpec.ofChange stageBlocksWrong)

/- THE SECOND FORM. 'bulk': how many values and letters a reading holds, each counted each time it is reached (what is shared counts as often as it is met; a slice's spare places count too). A statement '..UptoSaid' is the law's where the arguments, and the package variables that the reading takes, are together of bulk at most 1048576: NARROWER than '..Said'. Prove '..Said' where nothing that the law and all that it calls make is longer than what came in: it says more and counts as full. Else prove '..UptoSaid'. A law counts once. -/
mutual
def uptoBulk {H : Type} : DataW H → Nat
  | .lit (.string bytes) => bytes.length + 1
  | .lit _ => 1
  | .nil => 1
  | .ptr d => uptoBulk d + 1
  | .slice elems spare => uptoBulkAll elems + uptoBulkAll spare + 1
  | .agg parts => uptoBulkAll parts + 1
  | .iface _ d => uptoBulk d + 1
  | .map entries => uptoBulkEntries entries + 1
  | .held _ => 1
def uptoBulkAll {H : Type} : List (DataW H) → Nat
  | [] => 0
  | d :: r => uptoBulk d + uptoBulkAll r
def uptoBulkEntries {H : Type} : List (Lit × DataW H) → Nat
  | [] => 0
  | x :: r => uptoBulkEntry x + uptoBulkEntries r
def uptoBulkEntry {H : Type} : Lit × DataW H → Nat
  | (.string bytes, d) => bytes.length + uptoBulk d + 1
  | (_, d) => uptoBulk d + 1
 end
def uptoSmall : (H : Type) → List (DataW H) → Bool := fun _ ds => decide (uptoBulkAll ds ≤ 1048576)
def OpenSpec.upto (s : _root_.Go.ChangeSpec) : _root_.Go.OpenSpec := { _root_.Go.OpenSpec.ofChange s with cond := some uptoSmall }

/-- 'orthoepylaw04.StageAll', WHERE WHAT IT READS IS OF BULK AT MOST 1048576: true; the input reads as it did. -/
def stageAllUptoRow : OpenClaim := { program := "ythbcgbmpicgjiaa", sum := "e6fddf0c88188d1ffafb26e3fff7488cbd9d23766927f60e22283ca91a5f6367", func := "orthoepy/orthoepylaw04.StageAll", spec := "stageAll", plainKeys := false, apart := false, narrowed := true }
def StageAllUptoSaid : Prop := stageAllUptoRow.holds Try.pinned (OpenSpec.upto stageAllSpec)

/-- 'orthoepylaw04.StageLast', WHERE WHAT IT READS IS OF BULK AT MOST 1048576: true; the input reads as it did. -/
def stageLastUptoRow : OpenClaim := { program := "ythbcgbmpicgjiaa", sum := "e6fddf0c88188d1ffafb26e3fff7488cbd9d23766927f60e22283ca91a5f6367", func := "orthoepy/orthoepylaw04.StageLast", spec := "stageLast", plainKeys := false, apart := false, narrowed := true }
def StageLastUptoSaid : Prop := stageLastUptoRow.holds Try.pinned (OpenSpec.upto stageLastSpec)

/-- 'orthoepylaw04.StageBlocks', WHERE WHAT IT READS IS OF BULK AT MOST 1048576: true; the input reads as it did. -/
def stageBlocksUptoRow : OpenClaim := { program := "ythbcgbmpicgjiaa", sum := "e6fddf0c88188d1ffafb26e3fff7488cbd9d23766927f60e22283ca91a5f6367", func := "orthoepy/orthoepylaw04.StageBlocks", spec := "stageBlocks", plainKeys := false, apart := false, narrowed := true }
def StageBlocksUptoSaid : Prop := stageBlocksUptoRow.holds Try.pinned (OpenSpec.upto stageBlocksSpec)

end Rows
end Go.Proofs.Ythbcgbmpicgjiaa
