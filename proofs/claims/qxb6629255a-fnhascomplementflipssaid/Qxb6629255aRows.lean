/-
  No cell of these rows narrows 'for every input' (looked for: loops, veiled, ifaces, maps, wideKeys, modest, calm, conditions, laid).
  DERIVED. THE GIVEN ROWS OF THIS SEAT. 2 by the template 'for every input the law returns true; each argument reads behind the call as it read before'; 0 by the template 'total and deterministic' (their statements: Qxb6629255aTotals.lean).
  GIVEN WITH THE SEED: the statements are not yours to turn. If you find one false, say at which input.
  Laid BY PROGRAM, IN A SANDBOX (cutbox-rows.mjs): the forced cells as the released guide's own fill.sh prints them over the translation 0e089c71a8a4cb58… (all of the seat's roots in one cut). By AI agents, Wed Nov 11 2026. No macro, syntax, notation, axiom, sorry.
-/
import Derived.Test.Qxb6629255aChecked
import GoSem.Claim
import GoSem.ClaimJoined
import GoSem.ClaimMapViews
import Derived.JoinedTies
import Derived.KernelRfl
namespace Go.Proofs.Qxb6629255a
/- THE CELL 'sum', in the pinned program and in every row, IS THE sha256 OF THE DUMP (.gsa) THAT Qxb6629255aProg.lean LOADS. Nothing in Lean hashes anything: it is a label: what it is worth is what the hold of that sum in a sandbox is worth. -/
noncomputable def Try.pinned : Pinned := { name := "qxb6629255a", sum := "0e089c71a8a4cb58fae24b4f5619b258fb2dad4bd8ed81db45e9f2fd349fb1ff", checked := Try.checked }
namespace Rows
def none {H : Type} : Left H := { results := [], args := [] }

/-- 'zzlaws_root_b1.FnHasMatchesRangeModel': WHATEVER THE INPUT: true; the input reads as it did. -/
def fnHasMatchesRangeModelSpec : ChangeSpec := { name := "fnHasMatchesRangeModel", fn := fun _ => fun
  | [d1, d2] => { results := [.lit (.bool true)], args := [d1, d2] }
  | _ => none }
def fnHasMatchesRangeModelRow : OpenClaim := { program := "qxb6629255a", sum := "0e089c71a8a4cb58fae24b4f5619b258fb2dad4bd8ed81db45e9f2fd349fb1ff", func := "example.com/firm-roles/firm-roles/zzlaws_root_b1.FnHasMatchesRangeModel", spec := "fnHasMatchesRangeModel", apart := false }
def FnHasMatchesRangeModelSaid : Prop := fnHasMatchesRangeModelRow.holds Try.pinned (OpenSpec.ofChange fnHasMatchesRangeModelSpec)

/-- ITS FALSE NEIGHBOUR: 'it returns false'. Refute it at one input. -/
def fnHasMatchesRangeModelWrong : ChangeSpec := { name := "fnHasMatchesRangeModel", fn := fun _ => fun
  | [d1, d2] => { results := [.lit (.bool false)], args := [d1, d2] }
  | _ => none }
def FnHasMatchesRangeModelWrongFalsely : Prop := fnHasMatchesRangeModelRow.holds Try.pinned (OpenSpec.ofChange fnHasMatchesRangeModelWrong)

/-- 'zzlaws_root_b1.FnHasComplementFlips': WHATEVER THE INPUT: true; the input reads as it did. -/
def fnHasComplementFlipsSpec : ChangeSpec := { name := "fnHasComplementFlips", fn := fun _ => fun
  | [d1, d2] => { results := [.lit (.bool true)], args := [d1, d2] }
  | _ => none }
def fnHasComplementFlipsRow : OpenClaim := { program := "qxb6629255a", sum := "0e089c71a8a4cb58fae24b4f5619b258fb2dad4bd8ed81db45e9f2fd349fb1ff", func := "example.com/firm-roles/firm-roles/zzlaws_root_b1.FnHasComplementFlips", spec := "fnHasComplementFlips", apart := false }
def FnHasComplementFlipsSaid : Prop := fnHasComplementFlipsRow.holds Try.pinned (OpenSpec.ofChange fnHasComplementFlipsSpec)

/-- ITS FALSE NEIGHBOUR: 'it returns false'. Refute it at one input. -/
def fnHasComplementFlipsWrong : ChangeSpec := { name := "fnHasComplementFlips", fn := fun _ => fun
  | [d1, d2] => { results := [.lit (.bool false)], args := [d1, d2] }
  | _ => none }
def FnHasComplementFlipsWrongFalsely : Prop := fnHasComplementFlipsRow.holds Try.pinned (OpenSpec.ofChange fnHasComplementFlipsWrong)

end Rows
end Go.Proofs.Qxb6629255a
