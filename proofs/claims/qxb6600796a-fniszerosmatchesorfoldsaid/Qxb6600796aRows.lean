/-
  No cell of these rows narrows 'for every input' (looked for: loops, veiled, ifaces, maps, wideKeys, modest, calm, conditions, laid).
  DERIVED. THE GIVEN ROWS OF THIS SEAT. 2 by the template 'for every input the law returns true; each argument reads behind the call as it read before'; 0 by the template 'total and deterministic' (their statements: Qxb6600796aTotals.lean).
  GIVEN WITH THE SEED: the statements are not yours to turn. If you find one false, say at which input.
  Laid BY PROGRAM, IN A SANDBOX (cutbox-rows.mjs): the forced cells as the released guide's own fill.sh prints them over the translation 8d3216e5dd2a1fb0… (all of the seat's roots in one cut). By AI agents, Wed Nov 11 2026. No macro, syntax, notation, axiom, sorry.
-/
import Derived.Test.Qxb6600796aChecked
import GoSem.Claim
import GoSem.ClaimJoined
import GoSem.ClaimMapViews
import Derived.JoinedTies
import Derived.KernelRfl
namespace Go.Proofs.Qxb6600796a
/- THE CELL 'sum', in the pinned program and in every row, IS THE sha256 OF THE DUMP (.gsa) THAT Qxb6600796aProg.lean LOADS. Nothing in Lean hashes anything: it is a label: what it is worth is what the hold of that sum in a sandbox is worth. -/
noncomputable def Try.pinned : Pinned := { name := "qxb6600796a", sum := "8d3216e5dd2a1fb0aa276bcf56a82f8fb8df07949e2a6695c4dc63cbec897a27", checked := Try.checked }
namespace Rows
def none {H : Type} : Left H := { results := [], args := [] }

/-- 'zzlaws_store_b1.FnIsZerosMatchesOrFold': WHATEVER THE INPUT: true; the input reads as it did. -/
def fnIsZerosMatchesOrFoldSpec : ChangeSpec := { name := "fnIsZerosMatchesOrFold", fn := fun _ => fun
  | [d] => { results := [.lit (.bool true)], args := [d] }
  | _ => none }
def fnIsZerosMatchesOrFoldRow : OpenClaim := { program := "qxb6600796a", sum := "8d3216e5dd2a1fb0aa276bcf56a82f8fb8df07949e2a6695c4dc63cbec897a27", func := "example.com/keelson/keelson/zzlaws_store_b1.FnIsZerosMatchesOrFold", spec := "fnIsZerosMatchesOrFold", apart := false }
def FnIsZerosMatchesOrFoldSaid : Prop := fnIsZerosMatchesOrFoldRow.holds Try.pinned (OpenSpec.ofChange fnIsZerosMatchesOrFoldSpec)

/-- ITS FALSE NEIGHBOUR: 'it returns false'. Refute it at one input. -/
def fnIsZerosMatchesOrFoldWrong : ChangeSpec := { name := "fnIsZerosMatchesOrFold", fn := fun _ => fun
  | [d] => { results := [.lit (.bool false)], args := [d] }
  | _ => none }
def FnIsZerosMatchesOrFoldWrongFalsely : Prop := fnIsZerosMatchesOrFoldRow.holds Try.pinned (OpenSpec.ofChange fnIsZerosMatchesOrFoldWrong)

/-- 'zzlaws_store_b1.FnIsZerosSplitsAtEveryCut': WHATEVER THE INPUT: true; the input reads as it did. -/
def fnIsZerosSplitsAtEveryCutSpec : ChangeSpec := { name := "fnIsZerosSplitsAtEveryCut", fn := fun _ => fun
  | [d1, d2] => { results := [.lit (.bool true)], args := [d1, d2] }
  | _ => none }
def fnIsZerosSplitsAtEveryCutRow : OpenClaim := { program := "qxb6600796a", sum := "8d3216e5dd2a1fb0aa276bcf56a82f8fb8df07949e2a6695c4dc63cbec897a27", func := "example.com/keelson/keelson/zzlaws_store_b1.FnIsZerosSplitsAtEveryCut", spec := "fnIsZerosSplitsAtEveryCut", apart := false }
def FnIsZerosSplitsAtEveryCutSaid : Prop := fnIsZerosSplitsAtEveryCutRow.holds Try.pinned (OpenSpec.ofChange fnIsZerosSplitsAtEveryCutSpec)

/-- ITS FALSE NEIGHBOUR: 'it returns false'. Refute it at one input. -/
def fnIsZerosSplitsAtEveryCutWrong : ChangeSpec := { name := "fnIsZerosSplitsAtEveryCut", fn := fun _ => fun
  | [d1, d2] => { results := [.lit (.bool false)], args := [d1, d2] }
  | _ => none }
def FnIsZerosSplitsAtEveryCutWrongFalsely : Prop := fnIsZerosSplitsAtEveryCutRow.holds Try.pinned (OpenSpec.ofChange fnIsZerosSplitsAtEveryCutWrong)

end Rows
end Go.Proofs.Qxb6600796a
