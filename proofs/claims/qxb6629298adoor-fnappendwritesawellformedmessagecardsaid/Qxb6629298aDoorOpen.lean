/- The arguments opened; what the rows list of the library's table; the start that meets it. -/
import Derived.Test.Qxb6629298aDoorFrames
import Derived.ProofKit
import Derived.LaidMore
import Derived.LaidLaws
import Derived.Lib.LaidTab
import Derived.OpenShut
import Derived.ChangeArms
import Derived.Stop.Joined
import Derived.Stop.LaidErr
namespace Go.Proofs.Qxb6629298aDoor
open Go.ChangeShapes Go.WideShapes Go.ChangeAt Go.RowKit

theorem own : ownKnob Tryd.prog.godebug = none := by kernel_rfl
theorem laidOut : laidOutB Tryd.prog = true := by kernel_rfl
theorem cells26 : Tryd.prog.cellsOf 26 = 2 := by kernel_rfl
theorem cells3 : Tryd.prog.cellsOf 3 = 1 := by kernel_rfl
theorem cells9 : Tryd.prog.cellsOf 9 = 1 := by kernel_rfl

/-- what both rows list -/
abbrev laid3 : List (String × DataW Unit) := Rows.fnAppendFramesIndependentlyOfDstRow.laid
theorem gTab : Tryd.prog.globalNamed tabName = some 1 := by kernel_rfl
theorem tTab : (Tryd.prog.globals[1]?).map (·.type) = some 54 := by kernel_rfl

theorem tab_of_laid {W : World} (h : laidMetH Tryd.prog laid3 W) : Lib.TabIs Tryd.prog W tabName .u64 Lib.pow10Tab := by
  have h1 : laidMet Tryd.prog laid3 W := by
    rw [MakeChecks.laidMetH_plain _ _ _ (by kernel_rfl)] at h
    exact h
  have h2 : laidMet Tryd.prog ((tabName, Lib.tabData .u64 Lib.pow10Tab) :: []) W := h1.tail.tail
  exact Lib.tabIs_of_head gTab tTab Tryd.underlying54 Tryd.underlying41 (by kernel_rfl) (by kernel_rfl) h2

/-- The door's own heap meets the condition. -/
theorem door_met (os : Os) (args : Array Value) : laidMetH Tryd.prog laid3 ((World.doorLaid Tryd.prog 24 os).forCall (fun _ _ => 0) ⟨#[], args, []⟩).memory :=
  laidMetH_of_parts3 (fuel := 8) (laidMet_of_run' 8 (by kernel_rfl) (by kernel_rfl)) (by kernel_rfl) (by kernel_rfl)

section
variable {H : Type} {enc : TypeId × Value → H} {w : World} {base : Nat} {spare : Nat → Bool} {held : Bool}

theorem open_fs {fuel : Nat} {cs : List Value} {x : DataW H × List MemPlace} (h : DataW.trod enc Tryd.prog w base spare held fuel 23 cs = some x) :
    ∃ p n c tg vl, cs = [.slice p n c] ∧ n ≤ maxLen ∧ IsFs w p n c tg vl := by
  rcases DataW.trod_slice Tryd.underlying23 h with ⟨rfl, _⟩ | ⟨a, len, cap, elems, rest, m, _, rfl, _, _, hl, hm, hlen, hel, _, _⟩
  · exact ⟨none, 0, 0, fun _ => 0, fun _ => ⟨#[]⟩, rfl, by unfold maxLen; omega, .inl ⟨rfl, rfl, rfl⟩⟩
  · have each : ∀ i, ∃ ts : Int × ByteArray, i < len → w.cell? (a.add (i * 2)) = some (.int .i64 ts.1) ∧ w.cell? ⟨(a.add (i * 2)).block, (a.add (i * 2)).off + 1, none⟩ = some (.string ts.2) ∧ (Lit.int .i64 ts.1).wf = true ∧ ts.2.size ≤ maxLen := by
      intro i
      by_cases hi : i < len
      · have hE := hel i hi
        rw [cells26] at hE
        have hsome : elems[i]? = some (elems[i]'(by omega)) := List.getElem?_eq_getElem (by omega)
        rw [hsome] at hE
        simp only [Option.bind_eq_some_iff] at hE
        obtain ⟨c1, hc1, hy1⟩ := hE
        obtain ⟨xs, k, _, _, _, hxl, hfs⟩ := DataW.trod_struct Tryd.underlying26 hy1
        have hxl2 : xs.length = 2 := hxl
        have hcells : ∃ u v, c1 = [u, v] ∧ w.cell? (a.add (i * 2)) = some u ∧ w.cell? ((a.add (i * 2)).add 1) = some v := by
          unfold World.cells? at hc1
          split at hc1
          · simp only [List.range_succ, List.range_zero, List.nil_append, List.cons_append, List.mapM_cons, List.mapM_nil] at hc1
            have e0 : (a.add (i * 2)).add 0 = a.add (i * 2) := by simp [Addr.add]
            rw [e0] at hc1
            cases h0 : w.cell? (a.add (i * 2)) with
            | none => simp [h0] at hc1
            | some u =>
              cases h1 : w.cell? ((a.add (i * 2)).add 1) with
              | none => simp [h0, h1] at hc1
              | some v => simp [h0, h1] at hc1; exact ⟨u, v, hc1.symm, rfl, rfl⟩
          · cases hc1
        obtain ⟨u, v, rfl, hu, hv⟩ := hcells
        have f0 : DataW.trod enc Tryd.prog w base spare held k 3 (([u, v].drop 0).take (Tryd.prog.cellsOf 3)) = xs[0]? := hfs 0 _ rfl
        have f1 : DataW.trod enc Tryd.prog w base spare held k 9 (([u, v].drop 1).take (Tryd.prog.cellsOf 9)) = xs[1]? := hfs 1 _ rfl
        rw [show (a.add (i * 2)).add 1 = ⟨(a.add (i * 2)).block, (a.add (i * 2)).off + 1, none⟩ by simp [Addr.add]] at hv
        have hx0 : ∃ y, xs[0]? = some y := ⟨xs[0]'(by omega), List.getElem?_eq_getElem (by omega)⟩
        have hx1 : ∃ y, xs[1]? = some y := ⟨xs[1]'(by omega), List.getElem?_eq_getElem (by omega)⟩
        obtain ⟨y0, hy0⟩ := hx0
        obtain ⟨y1', hy1'⟩ := hx1
        rw [hy0] at f0
        rw [hy1'] at f1
        rw [cells3] at f0
        rw [cells9] at f1
        obtain ⟨t, e1, _, hwf⟩ := DataW.trod_int Tryd.underlying3 f0
        obtain ⟨s, e2, _, hsz⟩ := DataW.trod_string Tryd.underlying9 f1
        simp only [List.drop_zero, List.take_succ_cons, List.take_zero, List.cons.injEq, and_true] at e1
        simp only [List.drop_succ_cons, List.drop_zero, List.take_succ_cons, List.take_nil, List.cons.injEq, and_true] at e2
        subst e1 e2
        exact ⟨(t, s), fun _ => ⟨hu, hv, hwf, hsz⟩⟩
      · exact ⟨(0, ⟨#[]⟩), fun h => absurd h hi⟩
    refine ⟨some a, len, cap, fun i => (Classical.choose (each i)).1, fun i => (Classical.choose (each i)).2, rfl, by omega, .inr ⟨a, rfl, fun i hi => (Classical.choose_spec (each i) hi).1, fun i hi => (Classical.choose_spec (each i) hi).2.1, fun i hi => ?_, fun i hi => (Classical.choose_spec (each i) hi).2.2.2⟩⟩
    have := (Classical.choose_spec (each i) hi).2.2.1
    simpa [Lit.wf, IntKind.min, IntKind.max, IntKind.signed, IntKind.bits] using this

theorem open_dst {fuel : Nat} {cs : List Value} {x : DataW H × List MemPlace} (h : DataW.trod enc Tryd.prog w base spare held fuel 22 cs = some x) :
    ∃ p n c l, cs = [.slice p n c] ∧ n ≤ maxLen ∧ IsDst w p n c l := by
  rcases open_ints Tryd.underlying22 Tryd.underlying5 (by kernel_rfl) h with ⟨rfl, _⟩ | ⟨a, len, cap, zs, rfl, _, hl, hm, hz, _, hcell, hwz⟩
  · exact ⟨none, 0, 0, [], rfl, by unfold maxLen; omega, rfl, .inl ⟨rfl, rfl, rfl⟩⟩
  · have hzl : len ≤ zs.length := by rw [hz]; split <;> omega
    refine ⟨some a, len, cap, (zs.take len).map fun z => UInt8.ofNat z.toNat, rfl, by omega, by simp; omega, .inr ⟨a, rfl, fun j hj => ?_⟩⟩
    have hj' : j < len := by simp at hj; omega
    rw [hcell j (by omega)]
    have hm := hwz zs[j] (List.getElem_mem _)
    have hb : 0 ≤ zs[j] ∧ zs[j] ≤ 255 := by simpa [Lit.wf, IntKind.min, IntKind.max, IntKind.signed, IntKind.bits] using hm
    have : zs.getD j 0 = zs[j] := by simp [List.getD, List.getElem?_eq_getElem (show j < zs.length by omega)]
    rw [this]
    simp only [List.getElem_map, List.getElem_take, UInt8.toNat_ofNat']
    congr 2
    omega
end

end Go.Proofs.Qxb6629298aDoor
