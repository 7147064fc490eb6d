/- zzCloneBytes, zzHead, walked. -/
import Derived.Test.Qxb6629298aDoorArgs
import Derived.Laws.CopyOwn
import Derived.Laws.MakeOwn
import Derived.Laws.Append
import Derived.Lib.SlBytesConst
import Derived.Lib.SliceRun
namespace Go.Proofs.Qxb6629298aDoor
open Go.ChangeShapes Go.WideShapes Go.ChangeAt Go.RowKit

/-- the bytes l lie from the address a on -/
def Bytes (w : World) (a : Addr) (l : List UInt8) : Prop := ∀ j (hj : j < l.length), w.cell? (a.add j) = some (.int .u8 (l[j].toNat : Int))
theorem Bytes.below {w w' : World} {a : Addr} {l : List UInt8} (h : Bytes w a l) (hb : Below w.heap.size w w') : Bytes w' a l := by
  intro j hj
  have := h j hj
  have hlt : (a.add j).block < w.heap.size := by
    rcases Nat.lt_or_ge (a.add j).block w.heap.size with h' | h'
    · exact h'
    · simp [World.cell?, Array.getElem?_eq_none h'] at this
  rw [hb.cell hlt]; exact this

theorem size5 : (Tryd.prog.info? 5).map (·.size) = some 1 := by kernel_rfl
theorem zeros_row (n : Nat) : madeCells (Value.int .u8 0).cells (n * 1) = (List.replicate n (Value.int .u8 0)).toArray := by
  apply Array.ext
  · simp [madeCells]
  · intro i h1 h2
    simp [madeCells, Value.cells, Nat.mod_one]

theorem clone_run (w : World) (n : Nat) (x : Addr) (c : Nat) (l : List UInt8) (hl : Bytes w x l) (hn : l.length = n) (hm : n ≤ 100000000) :
    ∃ w1 w2, (Instr.makeSlice 22 (.int .i64 (n : Int)) (.int .i64 (n : Int))).run Tryd.prog w = .ok (.slice (some ⟨w.heap.size, 0, none⟩) n n) w1 ∧
      (∀ ty, (Builtin.copy_ #[22, 22] ty #[.slice (some ⟨w.heap.size, 0, none⟩) n n, .slice (some x) n c]).run Tryd.prog w1 = .ok (goInt n) w2) ∧
      St w w.heap.size l (.slice (some ⟨w.heap.size, 0, none⟩) n n) w2 := by
  obtain ⟨i, hi, hz0, hz1, hz2⟩ := info_parts info5
  have hr := run_make (P := Tryd.prog) w 22 5 i (.int .u8 0) Tryd.underlying22 hi hz0 .i64 .i64 (n : Int) (n : Int) (by omega) (by omega) (by rw [hz2]; omega) (by omega)
  rw [hz1, Int.toNat_natCast, zeros_row] at hr
  have hg1 : (w.alloc (.cells (List.replicate n (Value.int .u8 0)).toArray 5)).heap[w.heap.size]? = some (.cells (List.replicate n (Value.int .u8 0)).toArray 5 (0, 0)) := by
    show (w.heap.push _)[w.heap.size]? = _
    simp
  have hb1 : Below w.heap.size w (w.alloc (.cells (List.replicate n (Value.int .u8 0)).toArray 5)) := (Below.refl _ _).alloc (Nat.le_refl _) _
  have hl1 := hl.below hb1
  refine ⟨_, (w.alloc (.cells (List.replicate n (Value.int .u8 0)).toArray 5)).setRow w.heap.size (Lib.byteCells l).toArray, hr, fun ty => ?_, ?_⟩
  · have := run_copy_row (P := Tryd.prog) (w.alloc (.cells (List.replicate n (Value.int .u8 0)).toArray 5)) 22 22 ty 5 w.heap.size 0 n n x n c _ 5 (Lib.byteCells l) Tryd.underlying22 size5 hg1 (by simp [Lib.byteCells, hn])
      (fun j v hj => by
        have hj' : j < l.length := by have := (List.getElem?_eq_some_iff.1 hj).1; simpa [Lib.byteCells] using this
        rw [hl1 j hj']
        unfold Lib.byteCells at hj
        rw [List.getElem?_map, List.getElem?_eq_getElem hj'] at hj
        simpa using hj)
      (by simp [Lib.byteCells, hn]) (fun v hv => by unfold Lib.byteCells at hv; obtain ⟨b, _, rfl⟩ := List.mem_map.1 hv; rfl)
    rw [this]
    simp [Lib.byteCells, hn]
  · have hg2 := setRow_heap (w.alloc (.cells (List.replicate n (Value.int .u8 0)).toArray 5)) w.heap.size _ (Lib.byteCells l).toArray 5 _ hg1
    have hb2 : Below w.heap.size w ((w.alloc (.cells (List.replicate n (Value.int .u8 0)).toArray 5)).setRow w.heap.size (Lib.byteCells l).toArray) := below_setRow hb1 (Nat.le_refl _) _
    refine ⟨⟨by simp [Lib.byteCells], .inr ⟨w.heap.size, n, (Lib.byteCells l).toArray, by rw [hn], Nat.le_refl _, hg2, by omega, by unfold maxLen; omega, by simp [Lib.byteCells, hn], ?_⟩⟩, hb2, ?_, Nat.le_refl _⟩
    · rw [List.take_of_length_le (by simp [Lib.byteCells])]
    · intro k o hk _ _
      have hlt : k < w.heap.size := (Array.getElem?_eq_some_iff.1 hk).1
      rw [hb2.block k hlt]; exact hk

theorem eql22 (a : Option Addr) (l c : Nat) (w : World) : (binOp .eql 22 (.slice a l c) (.slice none 0 0)).run Tryd.prog w = .ok (.bool a.isNone) w :=
  Lib.run_eql_slice_nil w 22 5 a l c 0 0 Tryd.underlying22

theorem clone_some (x : Addr) (n c : Nat) (l : List UInt8) (w : World) (hl : Bytes w x l) (hn : l.length = n) (hm : n ≤ 100000000) :
    Calls Tryd.prog 6 #[.slice (some x) n c] w fun e w' => ∃ v, e = .returned v ∧ St w w.heap.size l v w' := by
  obtain ⟨w1, w2, hmk, hcp, hS⟩ := clone_run w n x c l hl hn hm
  have HS : Hid (St w w.heap.size l (.slice (some ⟨w.heap.size, 0, none⟩) n n) w2) := hS
  have heq := eql22
  clear hS hl hn
  go_enter Tryd.func6, Tryd.ntmps6
  go_wp2
  go_ret
  exact ⟨_, rfl, HS.out⟩

theorem clone_nil (w : World) :
    Calls Tryd.prog 6 #[.slice none 0 0] w fun e w' => ∃ v, e = .returned v ∧ St w w.heap.size [] v w' := by
  have heq := eql22
  go_enter Tryd.func6, Tryd.ntmps6
  go_wp2
  go_ret
  exact ⟨_, rfl, World.ownsRow_nil _ _ _ _, Below.refl _ _, Lib.OthersKept.refl _ _ _, Nat.le_refl _⟩

abbrev nine : Array Value := #[Value.int .u8 56, Value.int .u8 61, Value.int .u8 70, Value.int .u8 73, Value.int .u8 88, Value.int .u8 46, Value.int .u8 52, Value.int .u8 46, Value.int .u8 52]
abbrev three : Array Value := #[Value.int .u8 1, Value.int .u8 57, Value.int .u8 61]

theorem add_lit0 (g j : Nat) : (⟨g, 0, none⟩ : Addr).add j = ⟨g, j, none⟩ := by unfold Addr.add; split <;> simp_all

theorem head_run (w : World) : ∃ g cap w2, (Builtin.append_ #[22, 22] 22 #[.slice (some ⟨w.heap.size, 0, none⟩) 9 9, .slice (some ⟨w.heap.size + 1, 0, none⟩) 3 3]).run Tryd.prog ((w.alloc (.cells nine 5 (9, 10))).alloc (.cells three 5)) = .ok (.slice (some ⟨g, 0, none⟩) 12 cap) w2 ∧
    Row w2 g 0 12 (fun i => headB.getD i 0) ∧ Below w.heap.size w w2 := by
  obtain ⟨i, hi, hz0, hz1, hz2⟩ := info_parts info5
  have hA : (w.alloc (.cells nine 5 (9, 10))).heap.size = w.heap.size + 1 := by simp
  have h0 : ((w.alloc (.cells nine 5 (9, 10))).alloc (.cells three 5)).heap[w.heap.size]? = some (.cells nine 5 (9, 10)) := by
    show ((w.heap.push _).push _)[w.heap.size]? = _
    rw [Array.getElem?_push, if_neg (by simp), Array.getElem?_push, if_pos rfl]
  have h1 : ((w.alloc (.cells nine 5 (9, 10))).alloc (.cells three 5)).heap[w.heap.size + 1]? = some (.cells three 5 (0, 0)) := by
    show ((w.heap.push _).push _)[w.heap.size + 1]? = _
    rw [Array.getElem?_push, if_pos (by simp)]
  have hb : Below w.heap.size w ((w.alloc (.cells nine 5 (9, 10))).alloc (.cells three 5)) := ((Below.refl _ _).alloc (Nat.le_refl _) _).alloc (by simp) _
  have hr := run_append_grow (P := Tryd.prog) ((w.alloc (.cells nine 5 (9, 10))).alloc (.cells three 5)) 22 22 5 i (.int .u8 0) Tryd.underlying22 hi hz0
    ⟨w.heap.size, 0, none⟩ 9 9 nine.toList (by rw [hz1]; rfl) (fun j v hj => by rw [add_lit0]; unfold World.cell?; simp only [h0]; simpa using hj)
    ⟨w.heap.size + 1, 0, none⟩ 3 3 three.toList (by rw [hz1]; rfl) (fun j v hj => by rw [add_lit0]; unfold World.cell?; simp only [h1]; simpa using hj)
    (by omega) (by omega) (by rw [hz2]; decide)
  refine ⟨_, _, _, hr, fun k hk => ?_, (hb.drew).alloc (by simp; omega) _⟩
  have hnew : ∀ (W : World) (C : Array Value), (W.drew.alloc (.cells C 5)).heap[W.heap.size]? = some (.cells C 5 (0, 0)) := fun W C => by
    show (W.heap.push _)[W.heap.size]? = _
    simp
  rw [Nat.zero_add]
  unfold World.cell?
  simp only [hnew]
  have hk' : k = 0 ∨ k = 1 ∨ k = 2 ∨ k = 3 ∨ k = 4 ∨ k = 5 ∨ k = 6 ∨ k = 7 ∨ k = 8 ∨ k = 9 ∨ k = 10 ∨ k = 11 := by omega
  rw [Array.getElem?_append_left (by simp; omega)]
  rcases hk' with rfl | rfl | rfl | rfl | rfl | rfl | rfl | rfl | rfl | rfl | rfl | rfl <;> rfl

set_option maxHeartbeats 400000 in
theorem head_any (w : World) :
    Calls Tryd.prog 10 #[] w fun e w' => ∃ g cap, e = .returned (.slice (some ⟨g, 0, none⟩) 12 cap) ∧ Row w' g 0 12 (fun i => headB.getD i 0) ∧ Below w.heap.size w w' := by
  have hcv := Lib.run_convert_bytes_const (P := Tryd.prog) w 22 5 nine 9 9 Tryd.underlying22 Tryd.underlying5
  obtain ⟨g, cap, w2, hr, hrow, hb⟩ := head_run w
  have HR : Hid (Row w2 g 0 12 (fun i => headB.getD i 0) ∧ Below w.heap.size w w2) := ⟨hrow, hb⟩
  clear hrow hb
  go_enter Tryd.func10, Tryd.ntmps10
  go_wp2_with (at_builtin; refine wpList_append_run rfl _ _ 22 22 rfl _ _ _ w2 rfl rfl hr ?_)
  go_ret
  exact ⟨g, cap, rfl, HR.out⟩

end Go.Proofs.Qxb6629298aDoor
