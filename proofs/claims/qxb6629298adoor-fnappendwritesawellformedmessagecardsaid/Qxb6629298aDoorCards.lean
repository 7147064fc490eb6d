/-
  DERIVED. GIVEN WITH THE SEED: THE CARDS: each row of Qxb6629298aDoorRows.lean that lists a variable, with what it lists TIED to the program's text (the seventh form; the later family's looks); each row that meets fmt, with fmt's text TOLD by the authors' own Lean function (tested against real Go, not proved from fmt's source: count such statements apart). THE CARD IS WHAT COUNTS. Prove the row's statement (the work); the ties are given (Qxb6629298aDoorTie.lean); close each card by the builder's one call (the guide's Derived/Test/ToyasCard.lean, 'card_holds'). Laid BY PROGRAM, IN A SANDBOX (cutbox-door.mjs). By AI agents, Wed Nov 11 2026. No macro, syntax, notation, axiom, sorry.
-/
import Derived.Test.Qxb6629298aDoorRows
import GoSem.ClaimSeven
namespace Go.Proofs.Qxb6629298aDoor
namespace Rows

/-- THE TIED CARD OF 'zzlaws_pkg_fix_b1.FnAppendWritesAWellFormedMessage'. -/
def fnAppendWritesAWellFormedMessageCard : Claim7 := { stood := { row := fnAppendWritesAWellFormedMessageRow, standIns := [], harness := (true, "c2c9f5f15b9a0716549b20270df2603c659948ab84bdd9d81b1be676d35013d9"), looks := false }, kinds := [], alts := [], laidByText := true, laidKinds := [.data, .data, .data], laidTests := true, laidLooks := .later }
def FnAppendWritesAWellFormedMessageCardSaid : Prop := Claim7.holds Tryd.pinned (.plain (OpenSpec.ofChange fnAppendWritesAWellFormedMessageSpec)) fnAppendWritesAWellFormedMessageCard

/-- THE TIED CARD OF 'zzlaws_pkg_fix_b1.FnAppendFramesIndependentlyOfDst'. -/
def fnAppendFramesIndependentlyOfDstCard : Claim7 := { stood := { row := fnAppendFramesIndependentlyOfDstRow, standIns := [], harness := (true, "c2c9f5f15b9a0716549b20270df2603c659948ab84bdd9d81b1be676d35013d9"), looks := false }, kinds := [], alts := [], laidByText := true, laidKinds := [.data, .data, .data], laidTests := true, laidLooks := .later }
def FnAppendFramesIndependentlyOfDstCardSaid : Prop := Claim7.holds Tryd.pinned (.plain (OpenSpec.ofChange fnAppendFramesIndependentlyOfDstSpec)) fnAppendFramesIndependentlyOfDstCard
end Rows
end Go.Proofs.Qxb6629298aDoor
