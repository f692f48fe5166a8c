/-
  DERIVED. GIVEN WITH THE SEED: THE CARDS: each row of Qxb6609295aFmtRows.lean that lists a variable, with what it lists TIED to the program's text (the seventh form; the later family's looks); each row that meets fmt, with fmt's text TOLD by the authors' own Lean function (tested against real Go, not proved from fmt's source: count such statements apart). THE CARD IS WHAT COUNTS. Prove the row's statement (the work); the ties are given (Qxb6609295aFmtTie.lean); close each card by the builder's one call (the guide's Derived/Test/ToyasCard.lean, 'card_holds'). Laid BY PROGRAM, IN A SANDBOX (cutbox-door.mjs). By AI agents, Wed Nov 11 2026. No macro, syntax, notation, axiom, sorry.
-/
import Derived.Test.Qxb6609295aFmtRows
import GoSem.ClaimSeven
namespace Go.Proofs.Qxb6609295aFmt
namespace Rows

/-- THE TOLD CARD OF 'zzlaws_root_b1.FnSaveErrorWrapsCause'. -/
def fnSaveErrorWrapsCauseCard : Claim7 := { stood := { row := fnSaveErrorWrapsCauseRow, standIns := [], harness := (true, "c4de22c00b934b0ab661077f1e27801519bf8e5d195bb30af9a442e69043a110"), looks := true }, told := true, goes := false }
def FnSaveErrorWrapsCauseToldSaid : Prop := Claim7.holds Tryf.pinned (.plain (OpenSpec.ofChange fnSaveErrorWrapsCauseSpec)) fnSaveErrorWrapsCauseCard
/-- ITS FALSE NEIGHBOUR. Refute it at one input. -/
def FnSaveErrorWrapsCauseToldWrongFalsely : Prop := Claim7.holds Tryf.pinned (.plain (OpenSpec.ofChange fnSaveErrorWrapsCauseWrong)) fnSaveErrorWrapsCauseCard
end Rows
end Go.Proofs.Qxb6609295aFmt
