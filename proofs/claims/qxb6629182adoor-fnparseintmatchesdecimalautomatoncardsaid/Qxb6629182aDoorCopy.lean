/- Bytes that come in, 'make' and 'copy' at a length that is a letter. -/
import Derived.Test.Qxb6629182aDoorParse
import Derived.Laws.CopyOwn
import Derived.Laws.MakeOwn
namespace Go.Proofs.Qxb6629182aDoor
open Go.ChangeShapes Go.WideShapes Go.ChangeAt Go.RowKit

/-- WHAT THE WALK IS TOLD OF A SLICE OF INTEGERS THAT CAME IN -/
def IsRow (k : IntKind) (w : World) (a : Option Addr) (len cap : Nat) (zs : List Int) : Prop :=
  (a = none ∧ len = 0 ∧ cap = 0 ∧ zs = []) ∨
  ∃ x, a = some x ∧ len ≤ cap ∧ cap ≤ maxLen ∧ zs.length = cap ∧ (∀ i, i < zs.length → w.cell? (x.add i) = some (.int k (zs.getD i 0))) ∧ ∀ n ∈ zs, (Lit.int k n).wf = true

/-- a byte as a cell -/
def B (b : UInt8) : Value := .int .u8 (b.toNat : Int)

theorem IsRow.bytes {w : World} {a : Option Addr} {len cap : Nat} {zs : List Int} (h : IsRow .u8 w a len cap zs) :
    (a = none ∧ len = 0 ∧ cap = 0) ∨ ∃ x l, a = some x ∧ l.length = len ∧ Bytes w x l := by
  rcases h with ⟨h1, h2, h3, _⟩ | ⟨x, rfl, hl, _, hz, hc, hw⟩
  · exact .inl ⟨h1, h2, h3⟩
  · refine .inr ⟨x, (zs.take len).map fun z => UInt8.ofNat z.toNat, rfl, by simp; omega, fun j hj => ?_⟩
    have hj' : j < len := by simp at hj; omega
    rw [hc j (by omega)]
    have hm := hw zs[j] (List.getElem_mem _)
    have hb : 0 ≤ zs[j] ∧ zs[j] ≤ 255 := by simpa [Lit.wf, IntKind.min, IntKind.max, IntKind.signed, IntKind.bits] using hm
    have : zs.getD j 0 = zs[j] := by simp [List.getD, List.getElem?_eq_getElem (show j < zs.length by omega)]
    rw [this]
    simp only [List.getElem_map, List.getElem_take, UInt8.toNat_ofNat']
    congr 2
    omega

theorem info5 : (Tryd.prog.info? 5).map (fun i => (i.size, i.bytes)) = some (1, 1) := by kernel_rfl
theorem info5z : (Tryd.prog.info? 5).bind (fun i => i.zero) = some (.int .u8 0) := by kernel_rfl
theorem size5 : (Tryd.prog.info? 5).map (·.size) = some 1 := by kernel_rfl

theorem made_zero (n : Nat) : madeCells (Value.int .u8 0).cells (n * 1) = (List.replicate n (B 0)).toArray := by
  apply Array.ext
  · simp [madeCells]
  · intro i h1 h2
    simp [madeCells, Value.cells, B, Nat.mod_one]

theorem make_bytes (w : World) (n : Nat) (hn : n ≤ 1048577) :
    ∃ w1, (Instr.makeSlice 22 (.int .i64 (n : Int)) (.int .i64 (n : Int))).run Tryd.prog w = .ok (.slice (some ⟨w.heap.size, 0, none⟩) n n) w1 ∧
      w1.heap[w.heap.size]? = some (.cells (List.replicate n (B 0)).toArray 5 (0, 0)) ∧ Below w.heap.size w w1 ∧ w1.heap.size = w.heap.size + 1 := by
  have h1 := info5
  have h2 := info5z
  cases hi : Tryd.prog.info? 5 with
  | none => rw [hi] at h1; cases h1
  | some i =>
    rw [hi] at h1 h2
    obtain ⟨hs, hb⟩ : i.size = 1 ∧ i.bytes = 1 := by simpa using h1
    have hz : i.zero = some (.int .u8 0) := by simpa using h2
    have hr := run_make (P := Tryd.prog) w 22 5 i (.int .u8 0) Tryd.underlying22 hi hz .i64 .i64 (n : Int) (n : Int) (by omega) (by omega) (by rw [hb]; omega) (by omega)
    rw [hs, Int.toNat_natCast, made_zero] at hr
    refine ⟨_, hr, ?_, (Below.refl _ _).alloc (Nat.le_refl _) _, by simp⟩
    show (w.heap.push _)[w.heap.size]? = _
    simp

theorem copy_bytes (w : World) (g n : Nat) (a : Addr) (m c : Nat) (l : List UInt8) (hl : Bytes w a l) (hm : l.length = m) (hmn : m ≤ n)
    (hg : w.heap[g]? = some (.cells (List.replicate n (B 0)).toArray 5 (0, 0))) :
    ∃ w2, (∀ ty, (Builtin.copy_ #[22, 22] ty #[.slice (some ⟨g, 0, none⟩) n n, .slice (some a) m c]).run Tryd.prog w = .ok (goInt m) w2) ∧
      w2.heap[g]? = some (.cells (l.map B ++ List.replicate (n - m) (B 0)).toArray 5 (0, 0)) ∧ Below g w w2 ∧ w2.heap.size = w.heap.size := by
  refine ⟨_, fun ty => ?_, ?_, below_setRow (Below.refl _ _) (Nat.le_refl _) ((l.map B ++ List.replicate (n - m) (B 0)).toArray), by simp [World.setRow]⟩
  · have := run_copy_row (P := Tryd.prog) w 22 22 ty 5 g 0 n n a m c _ 5 (l.map B) Tryd.underlying22 size5 hg (by simp [hm, Nat.min_def]; omega)
      (fun j v hj => by
        have hj' : j < l.length := by have := (List.getElem?_eq_some_iff.1 hj).1; simpa using this
        rw [hl j hj']
        rw [List.getElem?_map, List.getElem?_eq_getElem hj'] at hj
        simpa [B] using hj)
      (by simp; omega) (fun v hv => by obtain ⟨b, _, rfl⟩ := List.mem_map.1 hv; rfl)
    rw [this]
    simp [hm]
  · exact setRow_heap w g _ _ 5 _ hg

theorem row_bytes {w : World} {g : Nat} {l : List UInt8} {r : List Value} (h : w.heap[g]? = some (.cells (l.map B ++ r).toArray 5 (0, 0))) : Bytes w ⟨g, 0, none⟩ l := by
  intro j hj
  have : (⟨g, 0, none⟩ : Addr).add j = ⟨g, j, none⟩ := by simp [Addr.add]; omega
  rw [this]
  simp [World.cell?, h, List.getElem?_append, hj, B]

theorem copy_nil (w : World) (g n : Nat) (ty : TypeId) :
    (Builtin.copy_ #[22, 22] ty #[.slice (some ⟨g, 0, none⟩) n n, .slice none 0 0]).run Tryd.prog w = .ok (goInt 0) w :=
  run_copy_nil (P := Tryd.prog) w 22 22 ty 5 ⟨g, 0, none⟩ n n Tryd.underlying22 (by rw [size5]; rfl)

end Go.Proofs.Qxb6629182aDoor
