/- ascendingBounds, walked (a region that draws its order). -/
import Derived.Test.Qxb6629255aSet
import Derived.Deep.QuietTactic
import Derived.BigQuiet
import Derived.Laws.CopyOwn
import Derived.Laws.MakeOwn
namespace Go.Proofs.Qxb6629255a
open Go.ChangeShapes Go.WideShapes Go.ChangeAt Go.RowKit

def AscAns (n : Nat) (f : Nat → Int) (e : Ending) : Prop := ∃ b : Bool, e = .returned (.bool b) ∧ (b = true → Asc n f)

set_option maxHeartbeats 400000 in
theorem asc_any (a : Addr) (n cap : Nat) (f : Nat → Int) (w : World) (hn : n ≤ 1048576) (hc : Cells w a n f) :
    Calls Try.prog 6 #[.slice (some a) n cap] w fun e w' => AscAns n f e ∧ ∃ m, w' = w.drewN m := by
  have HC : Hid (Cells w a n f) := hc
  clear hc
  go_enter Try.func6, Try.ntmps6
  go_wp2
  go_loopw [3] (fun ti wr => ∃ k m : Nat, 1 ≤ k ∧ k ≤ n + 1 ∧ ti = .int .i64 k ∧ wr = w.drewN m ∧ Hid (∀ i, i + 1 < k → i + 1 < n → f i < f (i + 1))) (fun ti _ => n + 1 - (intOf ti).toNat)
  case atStart => exact ⟨1, 0, Nat.le_refl _, by omega, rfl, rfl, fun i h _ => by omega⟩
  case round =>
    obtain ⟨k, m, hk1, hk2, rfl, rfl, HK⟩ := hrel
    by_cases hlt : k < n
    · obtain ⟨V, HV⟩ : ∃ V : Int, Hid (V = f (k - 1)) := ⟨f (k - 1), Eq.refl (f (k - 1))⟩
      obtain ⟨U, HU⟩ : ∃ U : Int, Hid (U = f k) := ⟨f k, Eq.refl (f k)⟩
      have hcell : w.cell? (a.add (k - 1)) = some (.int .u32 V) := by rw [HV.out]; exact HC.out _ (by omega)
      have hcell2 : w.cell? (a.add k) = some (.int .u32 U) := by rw [HU.out]; exact HC.out _ hlt
      have hkn : ((k : Int) < (n : Int)) := by omega
      have hk0 : (0 : Int) ≤ (k : Int) - 1 := by omega
      have hk3 : (k : Int) - 1 < (n : Int) := by omega
      by_cases huv : U ≤ V
      · clear HK
        go_wp2
        go_quiet (fail)
        go_wp2
        go_ret
        exact ⟨⟨false, rfl, fun h => by cases h⟩, m + _, World.drewN_drewN _ _ _⟩
      · go_wp2
        go_quiet (fail)
        go_wp2
        go_roundw
        case rel =>
          refine ⟨k + 1, m + _, by omega, by omega, by go_num, rfl, fun i h1 h2 => ?_⟩
          by_cases e : i + 1 = k
          · obtain rfl : i = k - 1 := by omega
            rw [e, ← HV.out, ← HU.out]; omega
          · exact HK.out i (by omega) h2
        case measure => simp [intOf]; omega
    · go_wp2
      go_ret
      exact ⟨⟨true, rfl, fun _ i hi => HK.out i (by omega) hi⟩, m, rfl⟩

theorem asc_nil (w : World) : Calls Try.prog 6 #[.slice none 0 0] w fun e w' => e = .returned (.bool true) ∧ w = w' := by
  go_enter Try.func6, Try.ntmps6
  go_wp2
  go_loop [3] (fun ti => ti = .int .i64 1) (fun _ => 0)
  case atStart => rfl
  case round =>
    subst hrel
    go_wp2
    go_ret
    exact ⟨rfl, rfl⟩

/-! ### what comes in; make and copy -/
/-- WHAT THE WALK IS TOLD OF A SLICE OF INTEGERS THAT CAME IN -/
def IsRow (k : IntKind) (w : World) (a : Option Addr) (len cap : Nat) (zs : List Int) : Prop :=
  (a = none ∧ len = 0 ∧ cap = 0 ∧ zs = []) ∨
  ∃ x, a = some x ∧ len ≤ cap ∧ cap ≤ maxLen ∧ zs.length = cap ∧ (∀ i, i < zs.length → w.cell? (x.add i) = some (.int k (zs.getD i 0))) ∧ ∀ n ∈ zs, (Lit.int k n).wf = true

theorem IsRow.cells {w : World} {a : Option Addr} {len cap : Nat} {zs : List Int} (h : IsRow .u32 w a len cap zs) :
    (a = none ∧ len = 0 ∧ cap = 0) ∨ ∃ x f, a = some x ∧ Cells w x len f ∧ ∀ i, i < len → 0 ≤ f i := by
  rcases h with ⟨h1, h2, h3, _⟩ | ⟨x, rfl, hl, _, hz, hc, hw⟩
  · exact .inl ⟨h1, h2, h3⟩
  · refine .inr ⟨x, fun i => zs.getD i 0, rfl, fun i hi => hc i (by omega), fun i hi => ?_⟩
    have hi' : i < zs.length := by omega
    have hm := hw zs[i] (List.getElem_mem _)
    have hb : 0 ≤ zs[i] ∧ zs[i] ≤ 4294967295 := by simpa [Lit.wf, IntKind.min, IntKind.max, IntKind.signed, IntKind.bits] using hm
    have : zs.getD i 0 = zs[i] := by simp [List.getD, List.getElem?_eq_getElem hi']
    show 0 ≤ zs.getD i 0
    omega

theorem Cells.below {w w' : World} {a : Addr} {n : Nat} {f : Nat → Int} (h : Cells w a n f) (hb : Below w.heap.size w w') : Cells w' a n f := by
  intro i hi
  have := h i hi
  have hlt : (a.add i).block < w.heap.size := by
    rcases Nat.lt_or_ge (a.add i).block w.heap.size with h' | h'
    · exact h'
    · simp [World.cell?, Array.getElem?_eq_none h'] at this
  rw [hb.cell hlt]; exact this

theorem info23 : (Try.prog.info? 23).map (fun i => (i.size, i.bytes)) = some (1, 4) := by kernel_rfl
theorem info23z : (Try.prog.info? 23).bind (fun i => i.zero) = some (.int .u32 0) := by kernel_rfl
theorem size23 : (Try.prog.info? 23).map (·.size) = some 1 := by kernel_rfl

/-- the row of n numbers g 0, g 1, .. -/
def row (n : Nat) (g : Nat → Int) : List Value := (List.range n).map fun i => .int .u32 (g i)
theorem row_length (n : Nat) (g : Nat → Int) : (row n g).length = n := by simp [row]
theorem row_at (n : Nat) (g : Nat → Int) (i : Nat) (h : i < n) : (row n g)[i]? = some (.int .u32 (g i)) := by simp [row, h]

theorem made_zero (n : Nat) : madeCells (Value.int .u32 0).cells (n * 1) = (row n fun _ => 0).toArray := by
  apply Array.ext
  · simp [madeCells, row]
  · intro i h1 h2
    simp [madeCells, Value.cells, row, Nat.mod_one]

theorem make_row (w : World) (n : Nat) (hn : n ≤ 1048577) :
    ∃ w1, (Instr.makeSlice 22 (.int .i64 (n : Int)) (.int .i64 (n : Int))).run Try.prog w = .ok (.slice (some ⟨w.heap.size, 0, none⟩) n n) w1 ∧
      w1.heap[w.heap.size]? = some (.cells (row n fun _ => 0).toArray 23 (0, 0)) ∧ Below w.heap.size w w1 ∧ w1.heap.size = w.heap.size + 1 := by
  have h1 := info23
  have h2 := info23z
  cases hi : Try.prog.info? 23 with
  | none => rw [hi] at h1; cases h1
  | some i =>
    rw [hi] at h1 h2
    obtain ⟨hs, hb⟩ : i.size = 1 ∧ i.bytes = 4 := by simpa using h1
    have hz : i.zero = some (.int .u32 0) := by simpa using h2
    have hr := run_make (P := Try.prog) w 22 23 i (.int .u32 0) Try.underlying22 hi hz .i64 .i64 (n : Int) (n : Int) (by omega) (by omega) (by rw [hb]; omega) (by omega)
    rw [hs, Int.toNat_natCast, made_zero] at hr
    refine ⟨_, hr, ?_, (Below.refl _ _).alloc (Nat.le_refl _) _, by simp⟩
    show (w.heap.push _)[w.heap.size]? = _
    simp

theorem copy_row (w : World) (g n : Nat) (a : Addr) (c : Nat) (f : Nat → Int) (hl : Cells w a n f) (hg : w.heap[g]? = some (.cells (row n fun _ => 0).toArray 23 (0, 0))) :
    ∃ w2, (∀ ty, (Builtin.copy_ #[22, 22] ty #[.slice (some ⟨g, 0, none⟩) n n, .slice (some a) n c]).run Try.prog w = .ok (goInt n) w2) ∧
      w2.heap[g]? = some (.cells (row n f).toArray 23 (0, 0)) ∧ Below g w w2 ∧ w2.heap.size = w.heap.size := by
  refine ⟨_, fun ty => ?_, ?_, below_setRow (Below.refl _ _) (Nat.le_refl _) ((row n f).toArray), by simp [World.setRow]⟩
  · have := run_copy_row (P := Try.prog) w 22 22 ty 23 g 0 n n a n c _ 23 (row n f) Try.underlying22 size23 hg (by simp [row_length])
      (fun j v hj => by
        have hj' : j < n := by have := (List.getElem?_eq_some_iff.1 hj).1; rwa [row_length] at this
        rw [hl j hj']
        rw [row_at n f j hj'] at hj
        exact hj)
      (by simp [row_length]) (fun v hv => by obtain ⟨b, _, rfl⟩ := List.mem_map.1 hv; rfl)
    rw [this]
    simp [row_length]
    rw [List.drop_eq_nil_of_le (by simp [row_length])]
    simp
  · exact setRow_heap w g _ _ 23 _ hg

theorem row_cells {w : World} {g n : Nat} {f : Nat → Int} (h : w.heap[g]? = some (.cells (row n f).toArray 23 (0, 0))) : Cells w ⟨g, 0, none⟩ n f := by
  intro j hj
  have : (⟨g, 0, none⟩ : Addr).add j = ⟨g, j, none⟩ := by simp [Addr.add]; omega
  rw [this]
  simp [World.cell?, h, row_at n f j hj]

theorem neq22 (a : Option Addr) (l c : Nat) (w : World) : (binOp .neq 22 (.slice a l c) (.slice none 0 0)).run Try.prog w = .ok (.bool (!a.isNone)) w :=
  run_neq_slice_nil_any w 22 23 a l c 0 0 Try.underlying22

theorem below_drewN (w : World) (m : Nat) : Below w.heap.size w (w.drewN m) := ⟨rfl, rfl, rfl, Nat.le_refl _, fun _ _ => rfl⟩

end Go.Proofs.Qxb6629255a
