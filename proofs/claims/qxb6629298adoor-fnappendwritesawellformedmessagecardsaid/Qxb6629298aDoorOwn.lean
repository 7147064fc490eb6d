/- A row of bytes that the law's run owns, appended to. -/
import Derived.Test.Qxb6629298aDoorSum
import Derived.Test.Qxb6629298aDoorDig
import Derived.Lib.AppendIntMem
import Derived.Lib.AppendStr
import Derived.Lib.OthersKept
import Derived.OwnWalk
namespace Go.Proofs.Qxb6629298aDoor
open Go.ChangeShapes Go.WideShapes Go.ChangeAt Go.RowKit

/-- the name of the table of powers of ten, as the row itself lists it -/
abbrev tabName : String := Rows.fnAppendFramesIndependentlyOfDstRow.named.getD 0 default

/-- wr: since w only blocks from B on that are rows of bytes have been turned; v is a slice of the run's own that holds l -/
structure St (w : World) (B : Nat) (l : List UInt8) (v : Value) (wr : World) : Prop where
  own : wr.ownsRow B 5 1 v l.length (Lib.byteCells l)
  bel : Below B w wr
  oth : Lib.OthersKept 5 none w wr
  hB : B ≤ w.heap.size

theorem St.size {w : World} {B : Nat} {l : List UInt8} {v : Value} {wr : World} (h : St w B l v wr) : B ≤ wr.heap.size := by
  have := h.bel.size; have := h.hB; omega
theorem oth_old {w wr w2 : World} (h : Lib.OthersKept 5 none w wr) (hb : Below wr.heap.size wr w2) : Lib.OthersKept 5 none w w2 := by
  intro k o hk hne ho
  have h1 := h k o hk hne ho
  have hlt : k < wr.heap.size := (Array.getElem?_eq_some_iff.1 h1).1
  rw [hb.block k hlt]; exact h1
theorem own_old {wr w2 : World} {B : Nat} {l : List UInt8} {v : Value} (h : wr.ownsRow B 5 1 v l.length (Lib.byteCells l)) (hb : Below wr.heap.size wr w2) : w2.ownsRow B 5 1 v l.length (Lib.byteCells l) :=
  h.kept (row := none) ⟨hb.os, hb.tape, hb.output, hb.size, fun k hk _ => hb.block k hk⟩ (by cases hv : v.ownBlock <;> simp)
/-- every old block stands -/
theorem St.old {w : World} {B : Nat} {l : List UInt8} {v : Value} {wr w2 : World} (h : St w B l v wr) (hb : Below wr.heap.size wr w2) : St w B l v w2 :=
  ⟨own_old h.own hb, h.bel.trans (hb.mono h.size), oth_old h.oth hb, h.hB⟩
theorem St.alloc {w : World} {B : Nat} {l : List UInt8} {v : Value} {wr : World} (h : St w B l v wr) (o : Obj) : St w B l v (wr.alloc o) :=
  h.old ((Below.refl _ _).alloc (Nat.le_refl _) o)
theorem own_kind {wr : World} {B n : Nat} {v : Value} {xs : List Value} (h : wr.ownsRow B 5 1 v n xs) : ∀ g, v.ownBlock = some g → ∃ c fz, wr.heap[g]? = some (.cells c 5 fz) := by
  intro g hg
  rcases h.2 with ⟨rfl, _⟩ | ⟨g', cap, cur, rfl, _, hgg, _⟩
  · simp [Value.ownBlock] at hg
  · simp [Value.ownBlock] at hg
    subst hg
    exact ⟨cur, (0, 0), hgg⟩
/-- what an append leaves -/
theorem St.grown {w : World} {B : Nat} {l l2 : List UInt8} {v v2 : Value} {wr w2 : World} (h : St w B l v wr) (hg : wr.grownBy w2 v.ownBlock) (ho : w2.ownsRow B 5 1 v2 l2.length (Lib.byteCells l2)) : St w B l2 v2 w2 :=
  ⟨ho, h.bel.grown hg h.size (fun k hk => (h.own.lt k hk).1), h.oth.grown hg (own_kind h.own), h.hB⟩

theorem info5 : (Tryd.prog.info? 5).map (fun i => (i.zero, i.size, i.bytes)) = some (some (.int .u8 0), 1, 1) := by kernel_rfl

/-- append(v, b1, b2, ..) -/
theorem St.bytes {w : World} {B : Nat} {l : List UInt8} {v : Value} {wr : World} (h : St w B l v wr) (bs : List UInt8) (cs : Array Value) (m : Nat) (hcs : cs.toList = Lib.byteCells bs) (hm : bs.length = m) (hl : l.length + m ≤ 1000000000) :
    ∃ v2 w2, (Builtin.append_ #[22, 22] 22 #[v, .slice (some ⟨wr.heap.size, 0, none⟩) m m]).run Tryd.prog (wr.alloc (.cells cs 5)) = .ok v2 w2 ∧ St w B (l ++ bs) v2 w2 := by
  obtain ⟨i, hi, hz0, hz1, hz2⟩ := info_parts info5
  have h1 := h.alloc (.cells cs 5)
  obtain ⟨v2, w2, hr, ho, hg, _⟩ := run_append_own (P := Tryd.prog) (wr.alloc (.cells cs 5)) B 22 22 5 i (.int .u8 0) 1 1 Tryd.underlying22 hi hz0 hz1 hz2 rfl (by decide) v l.length (Lib.byteCells l) h1.own
    ⟨wr.heap.size, 0, none⟩ m m (Lib.byteCells bs) (by rw [Lib.byteCells_length, hm, Nat.mul_one]) (fun j u hj => by
      have e : (⟨wr.heap.size, 0, none⟩ : Addr).add j = ⟨wr.heap.size, j, none⟩ := by unfold Addr.add; split <;> simp_all
      rw [e, World.cell?_alloc_new, ← hj, ← hcs]; simp)
    (fun u hu => by unfold Lib.byteCells at hu; obtain ⟨b, _, rfl⟩ := List.mem_map.1 hu; rfl) (by unfold maxLen; omega) (by omega) h1.size
  refine ⟨v2, w2, hr, h1.grown hg ?_⟩
  rw [← Lib.byteCells_append] at ho
  rw [List.length_append, hm]; exact ho

/-- append(v, s...) -/
theorem St.str {w : World} {B : Nat} {l : List UInt8} {v : Value} {wr : World} (h : St w B l v wr) (s : ByteArray) (hl : l.length + s.size ≤ 1000000000) :
    ∃ v2 w2, (Builtin.append_ #[22, 9] 22 #[v, .string s]).run Tryd.prog wr = .ok v2 w2 ∧ St w B (l ++ s.data.toList) v2 w2 := by
  obtain ⟨i, hi, hz0, hz1, hz2⟩ := info_parts info5
  obtain ⟨v2, w2, hr, ho, hg, _⟩ := Lib.run_append_own_string (P := Tryd.prog) wr B 22 9 22 5 i Tryd.underlying22 Tryd.underlying9 hi hz0 hz1 hz2 v l.length (Lib.byteCells l) h.own s (by unfold maxLen; omega) (by omega) h.size
  refine ⟨v2, w2, hr, h.grown hg ?_⟩
  have e : Lib.strCells s = Lib.byteCells s.data.toList := rfl
  rw [e, ← Lib.byteCells_append] at ho
  rw [List.length_append]; exact ho

/-- strconv.AppendInt(v, i, 10) -/
theorem St.int {w : World} {B : Nat} {l : List UInt8} {v : Value} {wr : World} (h : St w B l v wr) (i : Int) (h0 : -9223372036854775808 ≤ i) (h1 : i ≤ 9223372036854775807) (hl : l.length ≤ 1000000000)
    (hT : Lib.TabBelow Tryd.prog B w tabName .u64 Lib.pow10Tab) :
    Calls Tryd.prog 15 #[v, .int .i64 i, .int .i64 10] wr fun e w2 => ∃ v2, e = .returned v2 ∧ St w B (l ++ Lib.itoa i) v2 w2 := by
  refine (Any.strconv_AppendInt_10 Tryd.laysM176 B l.length i h0 h1 v (Lib.byteCells l) wr h.own h.size (by omega) (hT.on h.bel)).mono ?_
  rintro e w2 ⟨v2, rfl, ho, hb, hk⟩
  refine ⟨v2, rfl, ?_, h.bel.trans hb, h.oth.trans hk, h.hB⟩
  rw [← Lib.byteCells_append] at ho
  rw [List.length_append]; exact ho

theorem St.shape {w : World} {B : Nat} {l : List UInt8} {v : Value} {wr : World} (h : St w B l v wr) : ∃ p cap, v = .slice p l.length cap ∧ l.length ≤ cap ∧ (0 < l.length → ∃ g, p = some ⟨g, 0, none⟩ ∧ B ≤ g ∧ ∀ j (hj : j < l.length), wr.cell? ⟨g, j, none⟩ = some (.int .u8 (l[j].toNat : Int))) := by
  rcases h.own.2 with ⟨rfl, h0⟩ | ⟨g, cap, cur, rfl, hb, hg, hle, _, _, htk⟩
  · exact ⟨none, 0, by rw [h0], by omega, fun h => by omega⟩
  · refine ⟨_, cap, rfl, hle, fun _ => ⟨g, rfl, hb, fun j hj => ?_⟩⟩
    have := h.own.cells (g := g) rfl j (.int .u8 (l[j].toNat : Int)) (by simp [Lib.byteCells, hj])
    rwa [show (⟨g, 0, none⟩ : Addr).add j = ⟨g, j, none⟩ by unfold Addr.add; split <;> simp_all] at this

end Go.Proofs.Qxb6629298aDoor
