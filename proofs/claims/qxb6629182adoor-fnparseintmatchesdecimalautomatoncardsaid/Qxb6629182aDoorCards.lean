/-
  DERIVED. GIVEN WITH THE SEED: THE CARDS: each row of Qxb6629182aDoorRows.lean that lists a variable, with what it lists TIED to the program's text (the seventh form; the later family's looks); each row that meets fmt, with fmt's text TOLD by the authors' own Lean function (tested against real Go, not proved from fmt's source: count such statements apart). THE CARD IS WHAT COUNTS. Prove the row's statement (the work); the ties are given (Qxb6629182aDoorTie.lean); close each card by the builder's one call (the guide's Derived/Test/ToyasCard.lean, 'card_holds'). Laid BY PROGRAM, IN A SANDBOX (cutbox-door.mjs). By AI agents, Wed Nov 11 2026. No macro, syntax, notation, axiom, sorry.
-/
import Derived.Test.Qxb6629182aDoorRows
import GoSem.ClaimSeven
namespace Go.Proofs.Qxb6629182aDoor
namespace Rows

/-- THE TIED CARD OF 'zzlaws_commands_b1.FnParseIntMatchesDecimalAutomaton'. -/
def fnParseIntMatchesDecimalAutomatonCard : Claim7 := { stood := { row := fnParseIntMatchesDecimalAutomatonRow, standIns := [], harness := (true, "b9a10c6c119dfae826a5465aff391f01264e6ca4dd5a6fc31bd11b7085d1b9af"), looks := true }, kinds := [], alts := [], laidByText := true, laidKinds := [.data, .data, .data, .sentinel, .sentinel], laidTests := true, laidLooks := .later }
def FnParseIntMatchesDecimalAutomatonCardSaid : Prop := Claim7.holds Tryd.pinned (.plain (OpenSpec.ofChange fnParseIntMatchesDecimalAutomatonSpec)) fnParseIntMatchesDecimalAutomatonCard

/-- THE TIED CARD OF 'zzlaws_commands_b1.FnParseIntAppendDigit'. -/
def fnParseIntAppendDigitCard : Claim7 := { stood := { row := fnParseIntAppendDigitRow, standIns := [], harness := (true, "b9a10c6c119dfae826a5465aff391f01264e6ca4dd5a6fc31bd11b7085d1b9af"), looks := true }, kinds := [], alts := [], laidByText := true, laidKinds := [.data, .data, .data, .sentinel, .sentinel], laidTests := true, laidLooks := .later }
def FnParseIntAppendDigitCardSaid : Prop := Claim7.holds Tryd.pinned (.plain (OpenSpec.ofChange fnParseIntAppendDigitSpec)) fnParseIntAppendDigitCard
end Rows
end Go.Proofs.Qxb6629182aDoor
