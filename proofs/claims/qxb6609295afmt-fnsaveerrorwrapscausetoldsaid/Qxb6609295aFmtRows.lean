/-
  No cell of these rows narrows 'for every input' (looked for: loops, veiled, ifaces, maps, wideKeys, modest, calm, conditions, laid).
  DERIVED. THE GIVEN ROWS OF THIS SEAT. 1 by the template 'for every input the law returns true; each argument reads behind the call as it read before'; 0 by the template 'total and deterministic' (their statements: Qxb6609295aFmtTotals.lean).
  GIVEN WITH THE SEED: the statements are not yours to turn. If you find one false, say at which input.
  Laid BY PROGRAM, IN A SANDBOX (cutbox-rows.mjs): the forced cells as the released guide's own fill.sh prints them over the translation fbb94cb511551028… (all of the seat's roots in one cut). By AI agents, Wed Nov 11 2026. No macro, syntax, notation, axiom, sorry.
-/
import Derived.Test.Qxb6609295aFmtChecked
import GoSem.Claim
import GoSem.ClaimJoined
import GoSem.ClaimMapViews
import Derived.JoinedTies
import Derived.KernelRfl
namespace Go.Proofs.Qxb6609295aFmt
/- THE CELL 'sum', in the pinned program and in every row, IS THE sha256 OF THE DUMP (.gsa) THAT Qxb6609295aFmtProg.lean LOADS. Nothing in Lean hashes anything: it is a label: what it is worth is what the hold of that sum in a sandbox is worth. -/
noncomputable def Tryf.pinned : Pinned := { name := "qxb6609295afmt", sum := "fbb94cb511551028798f269e09d442d4890322e3b796293ab903650a2492ef9a", checked := Tryf.checked }
namespace Rows
def none {H : Type} : Left H := { results := [], args := [] }

/-- 'zzlaws_root_b1.FnSaveErrorWrapsCause': WHATEVER THE INPUT: true; the input reads as it did. -/
def fnSaveErrorWrapsCauseSpec : ChangeSpec := { name := "fnSaveErrorWrapsCause", fn := fun _ => fun
  | [d1, d2, d3, d4] => { results := [.lit (.bool true)], args := [d1, d2, d3, d4] }
  | _ => none }
def fnSaveErrorWrapsCauseRow : OpenClaim := { program := "qxb6609295afmt", sum := "fbb94cb511551028798f269e09d442d4890322e3b796293ab903650a2492ef9a", func := "example.com/urn3/urn3/zzlaws_root_b1.FnSaveErrorWrapsCause", spec := "fnSaveErrorWrapsCause", stops := ["fmt.errorf, its operands' methods called", "fmt.Sprintf"], inPlace := ["fmt.errorf"], unfollowed := true, recurses := true, apart := false }
/-- NO THEOREM (fmt's text is open here; it may be false): for the released tool's asking of the row's closed facts alone. THE STATEMENT IS 'FnSaveErrorWrapsCauseToldSaid' (Qxb6609295aFmtCards.lean). -/
def FnSaveErrorWrapsCauseFormAsk : Prop := fnSaveErrorWrapsCauseRow.holds Tryf.pinned (OpenSpec.ofChange fnSaveErrorWrapsCauseSpec)

/-- ITS FALSE NEIGHBOUR: 'it returns false'. Refute it at one input. -/
def fnSaveErrorWrapsCauseWrong : ChangeSpec := { name := "fnSaveErrorWrapsCause", fn := fun _ => fun
  | [d1, d2, d3, d4] => { results := [.lit (.bool false)], args := [d1, d2, d3, d4] }
  | _ => none }
def FnSaveErrorWrapsCauseWrongFormAsk : Prop := fnSaveErrorWrapsCauseRow.holds Tryf.pinned (OpenSpec.ofChange fnSaveErrorWrapsCauseWrong)

end Rows
end Go.Proofs.Qxb6609295aFmt
