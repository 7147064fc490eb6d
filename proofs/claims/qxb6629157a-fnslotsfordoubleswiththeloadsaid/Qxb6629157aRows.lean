/-
  No cell of these rows narrows 'for every input' (looked for: loops, veiled, ifaces, maps, wideKeys, modest, calm, conditions, laid).
  DERIVED. THE GIVEN ROWS OF THIS SEAT. 2 by the template 'for every input the law returns true; each argument reads behind the call as it read before'; 0 by the template 'total and deterministic' (their statements: Qxb6629157aTotals.lean).
  GIVEN WITH THE SEED: the statements are not yours to turn. If you find one false, say at which input.
  Laid BY PROGRAM, IN A SANDBOX (cutbox-rows.mjs): the forced cells as the released guide's own fill.sh prints them over the translation 2be9e377c516e445… (all of the seat's roots in one cut). By AI agents, Wed Nov 11 2026. No macro, syntax, notation, axiom, sorry.
-/
import Derived.Test.Qxb6629157aChecked
import GoSem.Claim
import GoSem.ClaimJoined
import GoSem.ClaimMapViews
import Derived.JoinedTies
import Derived.KernelRfl
namespace Go.Proofs.Qxb6629157a
/- THE CELL 'sum', in the pinned program and in every row, IS THE sha256 OF THE DUMP (.gsa) THAT Qxb6629157aProg.lean LOADS. Nothing in Lean hashes anything: it is a label: what it is worth is what the hold of that sum in a sandbox is worth. -/
noncomputable def Try.pinned : Pinned := { name := "qxb6629157a", sum := "2be9e377c516e445a74828ae6cb1da1008d8d7cf2c275ca7d483ba078c77c737", checked := Try.checked }
namespace Rows
def none {H : Type} : Left H := { results := [], args := [] }

/-- 'zzlaws_root_b1.FnSlotsForLeastTableThatHoldsN': WHATEVER THE INPUT: true; the input reads as it did. -/
def fnSlotsForLeastTableThatHoldsNSpec : ChangeSpec := { name := "fnSlotsForLeastTableThatHoldsN", fn := fun _ => fun
  | [d] => { results := [.lit (.bool true)], args := [d] }
  | _ => none }
def fnSlotsForLeastTableThatHoldsNRow : OpenClaim := { program := "qxb6629157a", sum := "2be9e377c516e445a74828ae6cb1da1008d8d7cf2c275ca7d483ba078c77c737", func := "example.com/lean-throttle/lean-throttle/zzlaws_root_b1.FnSlotsForLeastTableThatHoldsN", spec := "fnSlotsForLeastTableThatHoldsN", apart := false }
def FnSlotsForLeastTableThatHoldsNSaid : Prop := fnSlotsForLeastTableThatHoldsNRow.holds Try.pinned (OpenSpec.ofChange fnSlotsForLeastTableThatHoldsNSpec)

/-- ITS FALSE NEIGHBOUR: 'it returns false'. Refute it at one input. -/
def fnSlotsForLeastTableThatHoldsNWrong : ChangeSpec := { name := "fnSlotsForLeastTableThatHoldsN", fn := fun _ => fun
  | [d] => { results := [.lit (.bool false)], args := [d] }
  | _ => none }
def FnSlotsForLeastTableThatHoldsNWrongFalsely : Prop := fnSlotsForLeastTableThatHoldsNRow.holds Try.pinned (OpenSpec.ofChange fnSlotsForLeastTableThatHoldsNWrong)

/-- 'zzlaws_root_b1.FnSlotsForDoublesWithTheLoad': WHATEVER THE INPUT: true; the input reads as it did. -/
def fnSlotsForDoublesWithTheLoadSpec : ChangeSpec := { name := "fnSlotsForDoublesWithTheLoad", fn := fun _ => fun
  | [d] => { results := [.lit (.bool true)], args := [d] }
  | _ => none }
def fnSlotsForDoublesWithTheLoadRow : OpenClaim := { program := "qxb6629157a", sum := "2be9e377c516e445a74828ae6cb1da1008d8d7cf2c275ca7d483ba078c77c737", func := "example.com/lean-throttle/lean-throttle/zzlaws_root_b1.FnSlotsForDoublesWithTheLoad", spec := "fnSlotsForDoublesWithTheLoad", apart := false }
def FnSlotsForDoublesWithTheLoadSaid : Prop := fnSlotsForDoublesWithTheLoadRow.holds Try.pinned (OpenSpec.ofChange fnSlotsForDoublesWithTheLoadSpec)

/-- ITS FALSE NEIGHBOUR: 'it returns false'. Refute it at one input. -/
def fnSlotsForDoublesWithTheLoadWrong : ChangeSpec := { name := "fnSlotsForDoublesWithTheLoad", fn := fun _ => fun
  | [d] => { results := [.lit (.bool false)], args := [d] }
  | _ => none }
def FnSlotsForDoublesWithTheLoadWrongFalsely : Prop := fnSlotsForDoublesWithTheLoadRow.holds Try.pinned (OpenSpec.ofChange fnSlotsForDoublesWithTheLoadWrong)

end Rows
end Go.Proofs.Qxb6629157a
