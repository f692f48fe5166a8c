/-
  No cell of these rows narrows 'for every input' (looked for: loops, veiled, ifaces, maps, wideKeys, modest, calm, conditions, laid).
  DERIVED. THE GIVEN ROWS OF THIS SEAT. 1 by the template 'for every input the law returns true; each argument reads behind the call as it read before'; 0 by the template 'total and deterministic' (their statements: Qxb6609295aTotals.lean).
  GIVEN WITH THE SEED: the statements are not yours to turn. If you find one false, say at which input.
  Laid BY PROGRAM, IN A SANDBOX (cutbox-rows.mjs): the forced cells as the released guide's own fill.sh prints them over the translation c655e18c54d6f019… (all of the seat's roots in one cut). By AI agents, Wed Nov 11 2026. No macro, syntax, notation, axiom, sorry.
-/
import Derived.Test.Qxb6609295aChecked
import GoSem.Claim
import GoSem.ClaimJoined
import GoSem.ClaimMapViews
import Derived.JoinedTies
import Derived.KernelRfl
namespace Go.Proofs.Qxb6609295a
/- THE CELL 'sum', in the pinned program and in every row, IS THE sha256 OF THE DUMP (.gsa) THAT Qxb6609295aProg.lean LOADS. Nothing in Lean hashes anything: it is a label: what it is worth is what the hold of that sum in a sandbox is worth. -/
noncomputable def Try.pinned : Pinned := { name := "qxb6609295a", sum := "c655e18c54d6f019cf807781ab6409e038f9ca414b6b07e02a12d1fa45dc7c58", checked := Try.checked }
namespace Rows
def none {H : Type} : Left H := { results := [], args := [] }

/-- 'zzlaws_root_b1.FnFieldStepPathSplits': WHATEVER THE INPUT: true; the input reads as it did. -/
def fnFieldStepPathSplitsSpec : ChangeSpec := { name := "fnFieldStepPathSplits", fn := fun _ => fun
  | [d] => { results := [.lit (.bool true)], args := [d] }
  | _ => none }
def fnFieldStepPathSplitsRow : OpenClaim := { program := "qxb6609295a", sum := "c655e18c54d6f019cf807781ab6409e038f9ca414b6b07e02a12d1fa45dc7c58", func := "example.com/urn3/urn3/zzlaws_root_b1.FnFieldStepPathSplits", spec := "fnFieldStepPathSplits", apart := false }
def FnFieldStepPathSplitsSaid : Prop := fnFieldStepPathSplitsRow.holds Try.pinned (OpenSpec.ofChange fnFieldStepPathSplitsSpec)

/-- ITS FALSE NEIGHBOUR: 'it returns false'. Refute it at one input. -/
def fnFieldStepPathSplitsWrong : ChangeSpec := { name := "fnFieldStepPathSplits", fn := fun _ => fun
  | [d] => { results := [.lit (.bool false)], args := [d] }
  | _ => none }
def FnFieldStepPathSplitsWrongFalsely : Prop := fnFieldStepPathSplitsRow.holds Try.pinned (OpenSpec.ofChange fnFieldStepPathSplitsWrong)

end Rows
end Go.Proofs.Qxb6609295a
