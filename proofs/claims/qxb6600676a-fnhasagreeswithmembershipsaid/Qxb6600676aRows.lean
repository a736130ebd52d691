/-
  No cell of these rows narrows 'for every input' (looked for: loops, veiled, ifaces, maps, wideKeys, modest, calm, conditions, laid).
  DERIVED. THE GIVEN ROWS OF THIS SEAT. 2 by the template 'for every input the law returns true; each argument reads behind the call as it read before'; 0 by the template 'total and deterministic' (their statements: Qxb6600676aTotals.lean).
  GIVEN WITH THE SEED: the statements are not yours to turn. If you find one false, say at which input.
  Laid BY PROGRAM, IN A SANDBOX (cutbox-rows.mjs): the forced cells as the released guide's own fill.sh prints them over the translation ff200db21e00267c… (all of the seat's roots in one cut). By AI agents, Wed Nov 11 2026. No macro, syntax, notation, axiom, sorry.
-/
import Derived.Test.Qxb6600676aChecked
import GoSem.Claim
import GoSem.ClaimJoined
import GoSem.ClaimMapViews
import Derived.JoinedTies
import Derived.KernelRfl
namespace Go.Proofs.Qxb6600676a
/- THE CELL 'sum', in the pinned program and in every row, IS THE sha256 OF THE DUMP (.gsa) THAT Qxb6600676aProg.lean LOADS. Nothing in Lean hashes anything: it is a label: what it is worth is what the hold of that sum in a sandbox is worth. -/
noncomputable def Try.pinned : Pinned := { name := "qxb6600676a", sum := "ff200db21e00267cecd485c8f235c408faf8d0159f63f1a1986439dfd676a54b", checked := Try.checked }
namespace Rows
def none {H : Type} : Left H := { results := [], args := [] }

/-- 'zzlaws_root_b1.FnHasAgreesWithMembership': WHATEVER THE INPUT: true; the input reads as it did. -/
def fnHasAgreesWithMembershipSpec : ChangeSpec := { name := "fnHasAgreesWithMembership", fn := fun _ => fun
  | [d1, d2, d3] => { results := [.lit (.bool true)], args := [d1, d2, d3] }
  | _ => none }
def fnHasAgreesWithMembershipRow : OpenClaim := { program := "qxb6600676a", sum := "ff200db21e00267cecd485c8f235c408faf8d0159f63f1a1986439dfd676a54b", func := "example.com/bundlewright/bundlewright/zzlaws_root_b1.FnHasAgreesWithMembership", spec := "fnHasAgreesWithMembership", apart := false }
def FnHasAgreesWithMembershipSaid : Prop := fnHasAgreesWithMembershipRow.holds Try.pinned (OpenSpec.ofChange fnHasAgreesWithMembershipSpec)

/-- ITS FALSE NEIGHBOUR: 'it returns false'. Refute it at one input. -/
def fnHasAgreesWithMembershipWrong : ChangeSpec := { name := "fnHasAgreesWithMembership", fn := fun _ => fun
  | [d1, d2, d3] => { results := [.lit (.bool false)], args := [d1, d2, d3] }
  | _ => none }
def FnHasAgreesWithMembershipWrongFalsely : Prop := fnHasAgreesWithMembershipRow.holds Try.pinned (OpenSpec.ofChange fnHasAgreesWithMembershipWrong)

/-- 'zzlaws_root_b1.FnHasResumesFromAnyEarlierPlace': WHATEVER THE INPUT: true; the input reads as it did. -/
def fnHasResumesFromAnyEarlierPlaceSpec : ChangeSpec := { name := "fnHasResumesFromAnyEarlierPlace", fn := fun _ => fun
  | [d1, d2, d3] => { results := [.lit (.bool true)], args := [d1, d2, d3] }
  | _ => none }
def fnHasResumesFromAnyEarlierPlaceRow : OpenClaim := { program := "qxb6600676a", sum := "ff200db21e00267cecd485c8f235c408faf8d0159f63f1a1986439dfd676a54b", func := "example.com/bundlewright/bundlewright/zzlaws_root_b1.FnHasResumesFromAnyEarlierPlace", spec := "fnHasResumesFromAnyEarlierPlace", apart := false }
def FnHasResumesFromAnyEarlierPlaceSaid : Prop := fnHasResumesFromAnyEarlierPlaceRow.holds Try.pinned (OpenSpec.ofChange fnHasResumesFromAnyEarlierPlaceSpec)

/-- ITS FALSE NEIGHBOUR: 'it returns false'. Refute it at one input. -/
def fnHasResumesFromAnyEarlierPlaceWrong : ChangeSpec := { name := "fnHasResumesFromAnyEarlierPlace", fn := fun _ => fun
  | [d1, d2, d3] => { results := [.lit (.bool false)], args := [d1, d2, d3] }
  | _ => none }
def FnHasResumesFromAnyEarlierPlaceWrongFalsely : Prop := fnHasResumesFromAnyEarlierPlaceRow.holds Try.pinned (OpenSpec.ofChange fnHasResumesFromAnyEarlierPlaceWrong)

end Rows
end Go.Proofs.Qxb6600676a
