/- From what the rows list of the library's variables to what the walks ask; the start that meets it. -/
import Derived.Test.Qxb6629182aDoorCopy
import Derived.ProofKit
import Derived.LaidMore
import Derived.LaidLaws
import Derived.Lib.LaidTab
import Derived.OpenShut
import Derived.Stop.Joined
import Derived.Stop.LaidErr
namespace Go.Proofs.Qxb6629182aDoor
open Go.ChangeShapes Go.WideShapes Go.ChangeAt Go.RowKit

theorem own : ownKnob Tryd.prog.godebug = none := by kernel_rfl
theorem laidOut : laidOutB Tryd.prog = true := by kernel_rfl

/-- what both rows list -/
abbrev five : List (String × DataW Unit) := Rows.fnParseIntAppendDigitRow.laid

theorem gTab : Tryd.prog.globalNamed tabName = some 2 := by kernel_rfl
theorem tTab : (Tryd.prog.globals[2]?).map (·.type) = some 55 := by kernel_rfl
theorem gSyn : Tryd.prog.globalNamed "strconv.ErrSyntax" = some 0 := by kernel_rfl
theorem tSyn : (Tryd.prog.globals[0]?).map (·.type) = some 28 := by kernel_rfl
theorem gRng : Tryd.prog.globalNamed "strconv.ErrRange" = some 1 := by kernel_rfl
theorem tRng : (Tryd.prog.globals[1]?).map (·.type) = some 28 := by kernel_rfl

theorem sentinel_var {n nm : String} {d : DataW Unit} {r : List (String × DataW Unit)} {W : World} {g : Nat} {t : TypeId} {ms : Array (String × TypeId)}
    (hg : Tryd.prog.globalNamed n = some g) (ht : (Tryd.prog.globals[g]?).map (·.type) = some t) (hi : Tryd.prog.underlying t = some (.interface ms))
    (h : laidMet Tryd.prog ((n, .iface nm d) :: r) W) : ∃ tp p, W.var? Tryd.prog n = some #[.iface tp p] := by
  obtain ⟨ps, ⟨g0, t0, cs0, f0, p0, q0, hg0, ht0, hv0, hd0, _, _⟩, _, _⟩ := h
  obtain rfl := Option.some.inj (hg.symm.trans hg0)
  obtain rfl := Option.some.inj (ht.symm.trans ht0)
  obtain ⟨f1, u, v, hcs, _, _⟩ := iface_of_trod hi hd0
  refine ⟨u, v, ?_⟩
  rw [hv0]
  congr 1
  exact Array.ext' hcs

theorem ready_of_laid {W : World} (h : laidMetH Tryd.prog five W) : Ready W := by
  have h1 : laidMet Tryd.prog five W := by
    rw [MakeChecks.laidMetH_plain _ _ _ (by kernel_rfl)] at h
    exact h
  have h2 : laidMet Tryd.prog ((tabName, Lib.tabData .u64 Lib.pow10Tab) :: [("strconv.ErrRange", Rows.laid_strconv_ErrRange), ("strconv.ErrSyntax", Rows.laid_strconv_ErrSyntax)]) W := h1.tail.tail
  exact ⟨Lib.tabIs_of_head gTab tTab Tryd.underlying55 Tryd.underlying32 (by kernel_rfl) (by kernel_rfl) h2, sentinel_var gSyn tSyn Tryd.underlying28 h2.tail.tail, sentinel_var gRng tRng Tryd.underlying28 h2.tail⟩

/-- The door's own heap meets the condition. -/
theorem door_met (os : Os) (args : Array Value) : laidMetH Tryd.prog five ((World.doorLaid Tryd.prog 62 os).forCall (fun _ _ => 0) ⟨#[], args, []⟩).memory :=
  laidMetH_of_parts3 (fuel := 8) (laidMet_of_run' 8 (by kernel_rfl) (by kernel_rfl)) (by kernel_rfl) (by kernel_rfl)

end Go.Proofs.Qxb6629182aDoor
