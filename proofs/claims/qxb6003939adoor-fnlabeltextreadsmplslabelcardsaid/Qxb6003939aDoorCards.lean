/-
  DERIVED. GIVEN WITH THE SEED: THE CARDS: each row of Qxb6003939aDoorRows.lean that lists a variable, with what it lists TIED to the program's text (the seventh form; the later family's looks); each row that meets fmt, with fmt's text TOLD by the authors' own Lean function (tested against real Go, not proved from fmt's source: count such statements apart). THE CARD IS WHAT COUNTS. Prove the row's statement (the work); the ties are given (Qxb6003939aDoorTie.lean); close each card by the builder's one call (the guide's Derived/Test/ToyasCard.lean, 'card_holds'). Laid BY PROGRAM, IN A SANDBOX (cutbox-door.mjs). By AI agents, Wed Nov 11 2026. No macro, syntax, notation, axiom, sorry.
-/
import Derived.Test.Qxb6003939aDoorRows
import GoSem.ClaimSeven
namespace Go.Proofs.Qxb6003939aDoor
namespace Rows

/-- THE TIED CARD OF 'zzlaws_render_g1.FnLabelTextDecimalBothReadings'. -/
def fnLabelTextDecimalBothReadingsCard : Claim7 := { stood := { row := fnLabelTextDecimalBothReadingsRow, standIns := [], harness := (true, "c4288e12c4717707e8d2bff7fd27158fd6628ddc73545413f96dd9bc9651ea59"), looks := false }, kinds := [], alts := [], laidByText := true, laidKinds := [.data, .data, .data], laidTests := true, laidLooks := .later }
def FnLabelTextDecimalBothReadingsCardSaid : Prop := Claim7.holds Tryd.pinned (.plain (OpenSpec.ofChange fnLabelTextDecimalBothReadingsSpec)) fnLabelTextDecimalBothReadingsCard

/-- THE TIED CARD OF 'zzlaws_render_g1.FnLabelTextReadsMPLSLabel'. -/
def fnLabelTextReadsMPLSLabelCard : Claim7 := { stood := { row := fnLabelTextReadsMPLSLabelRow, standIns := [], harness := (true, "c4288e12c4717707e8d2bff7fd27158fd6628ddc73545413f96dd9bc9651ea59"), looks := false }, kinds := [], alts := [], laidByText := true, laidKinds := [.data, .data, .data], laidTests := true, laidLooks := .later }
def FnLabelTextReadsMPLSLabelCardSaid : Prop := Claim7.holds Tryd.pinned (.plain (OpenSpec.ofChange fnLabelTextReadsMPLSLabelSpec)) fnLabelTextReadsMPLSLabelCard
end Rows
end Go.Proofs.Qxb6003939aDoor
