/-
  No cell of these rows narrows 'for every input' (looked for: loops, veiled, ifaces, maps, wideKeys, modest, calm, conditions, laid).
  DERIVED. THE GIVEN ROWS OF THIS SEAT. 3 by the template 'for every input the law returns true; each argument reads behind the call as it read before'; 0 by the template 'total and deterministic' (their statements: Qxb6600722aTotals.lean).
  GIVEN WITH THE SEED: the statements are not yours to turn. If you find one false, say at which input.
  Laid BY PROGRAM, IN A SANDBOX (cutbox-rows.mjs): the forced cells as the released guide's own fill.sh prints them over the translation 78200818d62c9fab… (all of the seat's roots in one cut). By AI agents, Wed Nov 11 2026. No macro, syntax, notation, axiom, sorry.
-/
import Derived.Test.Qxb6600722aChecked
import GoSem.Claim
import GoSem.ClaimJoined
import GoSem.ClaimMapViews
import Derived.JoinedTies
import Derived.KernelRfl
namespace Go.Proofs.Qxb6600722a
/- THE CELL 'sum', in the pinned program and in every row, IS THE sha256 OF THE DUMP (.gsa) THAT Qxb6600722aProg.lean LOADS. Nothing in Lean hashes anything: it is a label: what it is worth is what the hold of that sum in a sandbox is worth. -/
noncomputable def Try.pinned : Pinned := { name := "qxb6600722a", sum := "78200818d62c9fabb73e1ec475d881be51e7e6a163ae70fcf1162510af57669a", checked := Try.checked }
namespace Rows
def none {H : Type} : Left H := { results := [], args := [] }

/-- 'zzlaws_cellsync_b1.FnReplaceKeepsRangesInOrder': WHATEVER THE INPUT: true; the input reads as it did. -/
def fnReplaceKeepsRangesInOrderSpec : ChangeSpec := { name := "fnReplaceKeepsRangesInOrder", fn := fun _ => fun
  | [d1, d2, d3, d4] => { results := [.lit (.bool true)], args := [d1, d2, d3, d4] }
  | _ => none }
def fnReplaceKeepsRangesInOrderRow : OpenClaim := { program := "qxb6600722a", sum := "78200818d62c9fabb73e1ec475d881be51e7e6a163ae70fcf1162510af57669a", func := "example.com/cellwright/cellwright/zzlaws_cellsync_b1.FnReplaceKeepsRangesInOrder", spec := "fnReplaceKeepsRangesInOrder", inPlace := ["slices.overlaps[*example.com/cellwright/cellwright/cellsync.rangeBlock]"], apart := false }
def FnReplaceKeepsRangesInOrderSaid : Prop := fnReplaceKeepsRangesInOrderRow.holds Try.pinned (OpenSpec.ofChange fnReplaceKeepsRangesInOrderSpec)

/-- ITS FALSE NEIGHBOUR: 'it returns false'. Refute it at one input. -/
def fnReplaceKeepsRangesInOrderWrong : ChangeSpec := { name := "fnReplaceKeepsRangesInOrder", fn := fun _ => fun
  | [d1, d2, d3, d4] => { results := [.lit (.bool false)], args := [d1, d2, d3, d4] }
  | _ => none }
def FnReplaceKeepsRangesInOrderWrongFalsely : Prop := fnReplaceKeepsRangesInOrderRow.holds Try.pinned (OpenSpec.ofChange fnReplaceKeepsRangesInOrderWrong)

/-- 'zzlaws_cellsync_b1.FnReplaceKeepsBlocksFullAndLocal': WHATEVER THE INPUT: true; the input reads as it did. -/
def fnReplaceKeepsBlocksFullAndLocalSpec : ChangeSpec := { name := "fnReplaceKeepsBlocksFullAndLocal", fn := fun _ => fun
  | [d1, d2, d3, d4] => { results := [.lit (.bool true)], args := [d1, d2, d3, d4] }
  | _ => none }
def fnReplaceKeepsBlocksFullAndLocalRow : OpenClaim := { program := "qxb6600722a", sum := "78200818d62c9fabb73e1ec475d881be51e7e6a163ae70fcf1162510af57669a", func := "example.com/cellwright/cellwright/zzlaws_cellsync_b1.FnReplaceKeepsBlocksFullAndLocal", spec := "fnReplaceKeepsBlocksFullAndLocal", inPlace := ["slices.overlaps[*example.com/cellwright/cellwright/cellsync.rangeBlock]"], apart := false }
def FnReplaceKeepsBlocksFullAndLocalSaid : Prop := fnReplaceKeepsBlocksFullAndLocalRow.holds Try.pinned (OpenSpec.ofChange fnReplaceKeepsBlocksFullAndLocalSpec)

/-- ITS FALSE NEIGHBOUR: 'it returns false'. Refute it at one input. -/
def fnReplaceKeepsBlocksFullAndLocalWrong : ChangeSpec := { name := "fnReplaceKeepsBlocksFullAndLocal", fn := fun _ => fun
  | [d1, d2, d3, d4] => { results := [.lit (.bool false)], args := [d1, d2, d3, d4] }
  | _ => none }
def FnReplaceKeepsBlocksFullAndLocalWrongFalsely : Prop := fnReplaceKeepsBlocksFullAndLocalRow.holds Try.pinned (OpenSpec.ofChange fnReplaceKeepsBlocksFullAndLocalWrong)

/-- 'zzlaws_cellsync_b1.FnReplaceWithNothingChangesNothing': WHATEVER THE INPUT: true; the input reads as it did. -/
def fnReplaceWithNothingChangesNothingSpec : ChangeSpec := { name := "fnReplaceWithNothingChangesNothing", fn := fun _ => fun
  | [d1, d2] => { results := [.lit (.bool true)], args := [d1, d2] }
  | _ => none }
def fnReplaceWithNothingChangesNothingRow : OpenClaim := { program := "qxb6600722a", sum := "78200818d62c9fabb73e1ec475d881be51e7e6a163ae70fcf1162510af57669a", func := "example.com/cellwright/cellwright/zzlaws_cellsync_b1.FnReplaceWithNothingChangesNothing", spec := "fnReplaceWithNothingChangesNothing", inPlace := ["slices.overlaps[*example.com/cellwright/cellwright/cellsync.rangeBlock]"], apart := false }
def FnReplaceWithNothingChangesNothingSaid : Prop := fnReplaceWithNothingChangesNothingRow.holds Try.pinned (OpenSpec.ofChange fnReplaceWithNothingChangesNothingSpec)

/-- ITS FALSE NEIGHBOUR: 'it returns false'. Refute it at one input. -/
def fnReplaceWithNothingChangesNothingWrong : ChangeSpec := { name := "fnReplaceWithNothingChangesNothing", fn := fun _ => fun
  | [d1, d2] => { results := [.lit (.bool false)], args := [d1, d2] }
  | _ => none }
def FnReplaceWithNothingChangesNothingWrongFalsely : Prop := fnReplaceWithNothingChangesNothingRow.holds Try.pinned (OpenSpec.ofChange fnReplaceWithNothingChangesNothingWrong)

end Rows
end Go.Proofs.Qxb6600722a
