/-
  No cell of these rows narrows 'for every input' (looked for: loops, veiled, ifaces, maps, wideKeys, modest, calm, conditions, laid).
  DERIVED. THE GIVEN ROWS OF THIS SEAT. 2 by the template 'for every input the law returns true; each argument reads behind the call as it read before'; 0 by the template 'total and deterministic' (their statements: Qxb6609160aTotals.lean).
  GIVEN WITH THE SEED: the statements are not yours to turn. If you find one false, say at which input.
  Laid BY PROGRAM, IN A SANDBOX (cutbox-rows.mjs): the forced cells as the released guide's own fill.sh prints them over the translation 1871d37fa5efe97a… (all of the seat's roots in one cut). By AI agents, Wed Nov 11 2026. No macro, syntax, notation, axiom, sorry.
-/
import Derived.Test.Qxb6609160aChecked
import GoSem.Claim
import GoSem.ClaimJoined
import GoSem.ClaimMapViews
import Derived.JoinedTies
import Derived.KernelRfl
namespace Go.Proofs.Qxb6609160a
/- THE CELL 'sum', in the pinned program and in every row, IS THE sha256 OF THE DUMP (.gsa) THAT Qxb6609160aProg.lean LOADS. Nothing in Lean hashes anything: it is a label: what it is worth is what the hold of that sum in a sandbox is worth. -/
noncomputable def Try.pinned : Pinned := { name := "qxb6609160a", sum := "1871d37fa5efe97a50233c6be714d5db80f813d94629f3a0cb535fe3702e3425", checked := Try.checked }
namespace Rows
def none {H : Type} : Left H := { results := [], args := [] }

/-- 'zzlaws_store_b1.FnLockWaitlistParsesBack': WHATEVER THE INPUT: true; the input reads as it did. -/
def fnLockWaitlistParsesBackSpec : ChangeSpec := { name := "fnLockWaitlistParsesBack", fn := fun _ => fun
  | [d] => { results := [.lit (.bool true)], args := [d] }
  | _ => none }
def fnLockWaitlistParsesBackRow : OpenClaim := { program := "qxb6609160a", sum := "1871d37fa5efe97a50233c6be714d5db80f813d94629f3a0cb535fe3702e3425", func := "example.com/holdfast/holdfast/zzlaws_store_b1.FnLockWaitlistParsesBack", spec := "fnLockWaitlistParsesBack", apart := false }
def FnLockWaitlistParsesBackSaid : Prop := fnLockWaitlistParsesBackRow.holds Try.pinned (OpenSpec.ofChange fnLockWaitlistParsesBackSpec)

/-- ITS FALSE NEIGHBOUR: 'it returns false'. Refute it at one input. -/
def fnLockWaitlistParsesBackWrong : ChangeSpec := { name := "fnLockWaitlistParsesBack", fn := fun _ => fun
  | [d] => { results := [.lit (.bool false)], args := [d] }
  | _ => none }
def FnLockWaitlistParsesBackWrongFalsely : Prop := fnLockWaitlistParsesBackRow.holds Try.pinned (OpenSpec.ofChange fnLockWaitlistParsesBackWrong)

/-- 'zzlaws_store_b1.FnPromotionOfGuardsAsDocumented': WHATEVER THE INPUT: true; the input reads as it did. -/
def fnPromotionOfGuardsAsDocumentedSpec : ChangeSpec := { name := "fnPromotionOfGuardsAsDocumented", fn := fun _ => fun
  | [d] => { results := [.lit (.bool true)], args := [d] }
  | _ => none }
def fnPromotionOfGuardsAsDocumentedRow : OpenClaim := { program := "qxb6609160a", sum := "1871d37fa5efe97a50233c6be714d5db80f813d94629f3a0cb535fe3702e3425", func := "example.com/holdfast/holdfast/zzlaws_store_b1.FnPromotionOfGuardsAsDocumented", spec := "fnPromotionOfGuardsAsDocumented", apart := false }
def FnPromotionOfGuardsAsDocumentedSaid : Prop := fnPromotionOfGuardsAsDocumentedRow.holds Try.pinned (OpenSpec.ofChange fnPromotionOfGuardsAsDocumentedSpec)

/-- ITS FALSE NEIGHBOUR: 'it returns false'. Refute it at one input. -/
def fnPromotionOfGuardsAsDocumentedWrong : ChangeSpec := { name := "fnPromotionOfGuardsAsDocumented", fn := fun _ => fun
  | [d] => { results := [.lit (.bool false)], args := [d] }
  | _ => none }
def FnPromotionOfGuardsAsDocumentedWrongFalsely : Prop := fnPromotionOfGuardsAsDocumentedRow.holds Try.pinned (OpenSpec.ofChange fnPromotionOfGuardsAsDocumentedWrong)

end Rows
end Go.Proofs.Qxb6609160a
