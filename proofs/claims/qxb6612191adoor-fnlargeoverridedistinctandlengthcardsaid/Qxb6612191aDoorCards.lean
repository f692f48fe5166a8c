/-
  DERIVED. GIVEN WITH THE SEED: THE CARDS: each row of Qxb6612191aDoorRows.lean that lists a variable, with what it lists TIED to the program's text (the seventh form; the later family's looks); each row that meets fmt, with fmt's text TOLD by the authors' own Lean function (tested against real Go, not proved from fmt's source: count such statements apart). THE CARD IS WHAT COUNTS. Prove the row's statement (the work); the ties are given (Qxb6612191aDoorTie.lean); close each card by the builder's one call (the guide's Derived/Test/ToyasCard.lean, 'card_holds'). Laid BY PROGRAM, IN A SANDBOX (cutbox-door.mjs). By AI agents, Wed Nov 11 2026. No macro, syntax, notation, axiom, sorry.
-/
import Derived.Test.Qxb6612191aDoorRows
import GoSem.ClaimSeven
namespace Go.Proofs.Qxb6612191aDoor
namespace Rows

/-- THE TIED CARD OF 'zzlaws_internal_bench_b1.FnLargeOverrideIsEnvPrefixedCanonicalDecimal'. -/
def fnLargeOverrideIsEnvPrefixedCanonicalDecimalCard : Claim7 := { stood := { row := fnLargeOverrideIsEnvPrefixedCanonicalDecimalRow, standIns := [], harness := (true, "8452e9bcc214e879991fe7f135a681d6e98a567d728fca9b8b41a43bdae24c16"), looks := false }, kinds := [], alts := [], laidByText := true, laidKinds := [.data, .data, .data], laidTests := true, laidLooks := .later }
def FnLargeOverrideIsEnvPrefixedCanonicalDecimalCardSaid : Prop := Claim7.holds Tryd.pinned (.plain (OpenSpec.ofChange fnLargeOverrideIsEnvPrefixedCanonicalDecimalSpec)) fnLargeOverrideIsEnvPrefixedCanonicalDecimalCard

/-- THE TIED CARD OF 'zzlaws_internal_bench_b1.FnLargeOverrideDistinctAndLength'. -/
def fnLargeOverrideDistinctAndLengthCard : Claim7 := { stood := { row := fnLargeOverrideDistinctAndLengthRow, standIns := [], harness := (true, "8452e9bcc214e879991fe7f135a681d6e98a567d728fca9b8b41a43bdae24c16"), looks := false }, kinds := [], alts := [], laidByText := true, laidKinds := [.data, .data, .data], laidTests := true, laidLooks := .later }
def FnLargeOverrideDistinctAndLengthCardSaid : Prop := Claim7.holds Tryd.pinned (.plain (OpenSpec.ofChange fnLargeOverrideDistinctAndLengthSpec)) fnLargeOverrideDistinctAndLengthCard
end Rows
end Go.Proofs.Qxb6612191aDoor
