/-
  No cell of these rows narrows 'for every input' (looked for: loops, veiled, ifaces, maps, wideKeys, modest, calm, conditions, laid).
  DERIVED. THE GIVEN ROWS OF THIS SEAT. 2 by the template 'for every input the law returns true; each argument reads behind the call as it read before'; 0 by the template 'total and deterministic' (their statements: Qxb6601424aTotals.lean).
  GIVEN WITH THE SEED: the statements are not yours to turn. If you find one false, say at which input.
  Laid BY PROGRAM, IN A SANDBOX (cutbox-rows.mjs): the forced cells as the released guide's own fill.sh prints them over the translation a83968346600a0fd… (all of the seat's roots in one cut). By AI agents, Wed Nov 11 2026. No macro, syntax, notation, axiom, sorry.
-/
import Derived.Test.Qxb6601424aChecked
import GoSem.Claim
import GoSem.ClaimJoined
import GoSem.ClaimMapViews
import Derived.JoinedTies
import Derived.KernelRfl
namespace Go.Proofs.Qxb6601424a
/- THE CELL 'sum', in the pinned program and in every row, IS THE sha256 OF THE DUMP (.gsa) THAT Qxb6601424aProg.lean LOADS. Nothing in Lean hashes anything: it is a label: what it is worth is what the hold of that sum in a sandbox is worth. -/
noncomputable def Try.pinned : Pinned := { name := "qxb6601424a", sum := "a83968346600a0fd0717e79039936bd0ca65082a7214db317b09d753d53c5878", checked := Try.checked }
namespace Rows
def none {H : Type} : Left H := { results := [], args := [] }

/-- 'zzlaws_pkg_recon_b1.FnPolyEqualIsSymmetricAndReflexive': WHATEVER THE INPUT: true; the input reads as it did. -/
def fnPolyEqualIsSymmetricAndReflexiveSpec : ChangeSpec := { name := "fnPolyEqualIsSymmetricAndReflexive", fn := fun _ => fun
  | [d1, d2] => { results := [.lit (.bool true)], args := [d1, d2] }
  | _ => none }
def fnPolyEqualIsSymmetricAndReflexiveRow : OpenClaim := { program := "qxb6601424a", sum := "a83968346600a0fd0717e79039936bd0ca65082a7214db317b09d753d53c5878", func := "example.com/keymeld/keymeld/zzlaws_pkg_recon_b1.FnPolyEqualIsSymmetricAndReflexive", spec := "fnPolyEqualIsSymmetricAndReflexive", apart := false }
def FnPolyEqualIsSymmetricAndReflexiveSaid : Prop := fnPolyEqualIsSymmetricAndReflexiveRow.holds Try.pinned (OpenSpec.ofChange fnPolyEqualIsSymmetricAndReflexiveSpec)

/-- ITS FALSE NEIGHBOUR: 'it returns false'. Refute it at one input. -/
def fnPolyEqualIsSymmetricAndReflexiveWrong : ChangeSpec := { name := "fnPolyEqualIsSymmetricAndReflexive", fn := fun _ => fun
  | [d1, d2] => { results := [.lit (.bool false)], args := [d1, d2] }
  | _ => none }
def FnPolyEqualIsSymmetricAndReflexiveWrongFalsely : Prop := fnPolyEqualIsSymmetricAndReflexiveRow.holds Try.pinned (OpenSpec.ofChange fnPolyEqualIsSymmetricAndReflexiveWrong)

/-- 'zzlaws_pkg_recon_b1.FnPolyEqualSeesEveryLimb': WHATEVER THE INPUT: true; the input reads as it did. -/
def fnPolyEqualSeesEveryLimbSpec : ChangeSpec := { name := "fnPolyEqualSeesEveryLimb", fn := fun _ => fun
  | [d1, d2, d3, d4] => { results := [.lit (.bool true)], args := [d1, d2, d3, d4] }
  | _ => none }
def fnPolyEqualSeesEveryLimbRow : OpenClaim := { program := "qxb6601424a", sum := "a83968346600a0fd0717e79039936bd0ca65082a7214db317b09d753d53c5878", func := "example.com/keymeld/keymeld/zzlaws_pkg_recon_b1.FnPolyEqualSeesEveryLimb", spec := "fnPolyEqualSeesEveryLimb", apart := false }
def FnPolyEqualSeesEveryLimbSaid : Prop := fnPolyEqualSeesEveryLimbRow.holds Try.pinned (OpenSpec.ofChange fnPolyEqualSeesEveryLimbSpec)

/-- ITS FALSE NEIGHBOUR: 'it returns false'. Refute it at one input. -/
def fnPolyEqualSeesEveryLimbWrong : ChangeSpec := { name := "fnPolyEqualSeesEveryLimb", fn := fun _ => fun
  | [d1, d2, d3, d4] => { results := [.lit (.bool false)], args := [d1, d2, d3, d4] }
  | _ => none }
def FnPolyEqualSeesEveryLimbWrongFalsely : Prop := fnPolyEqualSeesEveryLimbRow.holds Try.pinned (OpenSpec.ofChange fnPolyEqualSeesEveryLimbWrong)

end Rows
end Go.Proofs.Qxb6601424a
