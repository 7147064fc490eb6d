/- zzToFix, walked (a region that draws its order and writes). -/
import Derived.Test.Qxb6629298aDoorMake
import Derived.RegionTactic
import Derived.BigRegion
namespace Go.Proofs.Qxb6629298aDoor
open Go.ChangeShapes Go.WideShapes Go.ChangeAt Go.RowKit

theorem info37 : (Tryd.prog.info? 37).map (fun i => (i.zero, i.size, i.bytes)) = some (some (.agg #[.int .i64 0, .string ⟨#[]⟩]), 2, 24) := by kernel_rfl

theorem ArgF.below {w w' : World} {x : Addr} {n : Nat} {tg : Nat → Int} {vl : Nat → ByteArray} (h : ArgF w x n tg vl) (hb : Below w.heap.size w w') : ArgF w' x n tg vl := by
  have key : ∀ (p : Addr) (v : Value), w.cell? p = some v → w'.cell? p = some v := fun p v hp => by
    have hlt : p.block < w.heap.size := by
      rcases Nat.lt_or_ge p.block w.heap.size with h' | h'
      · exact h'
      · simp [World.cell?, Array.getElem?_eq_none h'] at hp
    rw [hb.cell hlt]; exact hp
  exact ⟨fun i hi => key _ _ (h.tag i hi), fun i hi => key _ _ (h.val i hi), h.fit, h.len⟩

/-- the row while it is filled -/
structure Fill (w : World) (g n k : Nat) (tg : Nat → Int) (vl : Nat → ByteArray) (wr : World) : Prop where
  row : ∃ cur : Array Value, wr.heap[g]? = some (.cells cur 37 (0, 0)) ∧ cur.size = n * 2 ∧ ∀ i, i < k → cur[i * 2]? = some (.int .i64 (tg i)) ∧ cur[i * 2 + 1]? = some (.string (vl i))
  bel : Below w.heap.size w wr

theorem fill_start (w : World) (n : Nat) (tg : Nat → Int) (vl : Nat → ByteArray) (hn : n ≤ 10000000) :
    ∃ w1, (Instr.makeSlice 29 (.int .i64 (n : Int)) (.int .i64 (n : Int))).run Tryd.prog w = .ok (.slice (some ⟨w.heap.size, 0, none⟩) n n) w1 ∧ Fill w w.heap.size n 0 tg vl w1 := by
  obtain ⟨i, hi, hz0, hz1, hz2⟩ := info_parts info37
  have hr := run_make (P := Tryd.prog) w 29 37 i (.agg #[.int .i64 0, .string ⟨#[]⟩]) Tryd.underlying29 hi hz0 .i64 .i64 (n : Int) (n : Int) (by omega) (by omega) (by rw [hz2]; omega) (by omega)
  rw [hz1, Int.toNat_natCast] at hr
  refine ⟨_, hr, ⟨madeCells (Value.agg #[.int .i64 0, .string ⟨#[]⟩]).cells (n * 2), ?_, size_madeCells _ _, fun i hi => by omega⟩, (Below.refl _ _).alloc (Nat.le_refl _) _⟩
  show (w.heap.push _)[w.heap.size]? = _
  simp

theorem Fill.cells {w : World} {g n k : Nat} {tg : Nat → Int} {vl : Nat → ByteArray} {wr : World} (h : Fill w g n k tg vl wr) (hk : k < n) :
    (∃ c, wr.cell? ⟨g, k * 2, none⟩ = some c) ∧ (∃ c, wr.cell? ⟨g, k * 2 + 1, none⟩ = some c) ∧ wr.frozen? ⟨g, k * 2, none⟩ = false ∧ wr.frozen? ⟨g, k * 2 + 1, none⟩ = false := by
  obtain ⟨cur, h1, h2, _⟩ := h.row
  refine ⟨⟨cur[k * 2], by simp [World.cell?, h1]⟩, ⟨cur[k * 2 + 1], by simp [World.cell?, h1]⟩, by simp [World.frozen?, h1], by simp [World.frozen?, h1]⟩

theorem Fill.step {w : World} {g n k : Nat} {tg : Nat → Int} {vl : Nat → ByteArray} {wr : World} (h : Fill w g n k tg vl wr) (hg : w.heap.size ≤ g) (hk : k < n) :
    Fill w g n (k + 1) tg vl ((wr.setCell ⟨g, k * 2, none⟩ (.int .i64 (tg k))).setCell ⟨g, k * 2 + 1, none⟩ (.string (vl k))) := by
  obtain ⟨cur, h1, h2, h3⟩ := h.row
  have e1 := setCell_eq_setRow wr g (k * 2) cur 37 (0, 0) (.int .i64 (tg k)) h1
  have g1 := setRow_heap wr g cur (cur.setIfInBounds (k * 2) (.int .i64 (tg k))) 37 (0, 0) h1
  rw [← e1] at g1
  have e2 := setCell_eq_setRow _ g (k * 2 + 1) _ 37 (0, 0) (.string (vl k)) g1
  have g2 := setRow_heap _ g _ ((cur.setIfInBounds (k * 2) (.int .i64 (tg k))).setIfInBounds (k * 2 + 1) (.string (vl k))) 37 (0, 0) g1
  rw [← e2] at g2
  refine ⟨⟨_, g2, by simp [h2], fun i hi => ?_⟩, (h.bel.setCell hg _).setCell hg _⟩
  by_cases e : i = k
  · subst e
    constructor
    · rw [Array.getElem?_setIfInBounds_ne (by omega), Array.getElem?_setIfInBounds_self_of_lt (by omega)]
    · rw [Array.getElem?_setIfInBounds_self_of_lt (by simp; omega)]
  · obtain ⟨a1, a2⟩ := h3 i (by omega)
    constructor
    · rw [Array.getElem?_setIfInBounds_ne (by omega), Array.getElem?_setIfInBounds_ne (by omega)]; exact a1
    · rw [Array.getElem?_setIfInBounds_ne (by omega), Array.getElem?_setIfInBounds_ne (by omega)]; exact a2

set_option maxHeartbeats 1000000 in
theorem toFix_some (x : Addr) (n c : Nat) (tg : Nat → Int) (vl : Nat → ByteArray) (w : World) (hA : ArgF w x n tg vl) (hn : n ≤ 10000000) :
    Calls Tryd.prog 8 #[.slice (some x) n c] w fun e w' => ∃ g, e = .returned (.slice (some ⟨g, 0, none⟩) n n) ∧ FieldsAt w' g n tg vl ∧ Below w.heap.size w w' := by
  obtain ⟨w1, hmk, hfill⟩ := fill_start w n tg vl hn
  obtain ⟨g, hg⟩ : ∃ g, g = w.heap.size := ⟨_, rfl⟩
  rw [← hg] at hmk hfill
  have HF : Hid (Fill w g n 0 tg vl w1 ∧ ArgF w x n tg vl ∧ g = w.heap.size) := ⟨hfill, hA, hg⟩
  clear hfill hA hg
  go_enter Tryd.func8, Tryd.ntmps8
  go_wp2
  go_loopw [4] (fun ti wr => ∃ k : Nat, k ≤ n ∧ ti = .int .i64 k ∧ Hid (Fill w g n k tg vl wr)) (fun ti _ => n - (intOf ti).toNat)
  case atStart => exact ⟨0, Nat.zero_le _, rfl, HF.out.1⟩
  case round =>
    obtain ⟨k, hk, rfl, HK⟩ := hrel
    by_cases hlt : k < n
    · obtain ⟨T, HT⟩ : ∃ T : Int, Hid (T = tg k) := ⟨tg k, Eq.refl (tg k)⟩
      obtain ⟨V, HV⟩ : ∃ V : ByteArray, Hid (V = vl k) := ⟨vl k, Eq.refl (vl k)⟩
      have hA1 := (HF.out.2.1.below HK.out.bel).tag k hlt
      have hA2 := (HF.out.2.1.below HK.out.bel).val k hlt
      rw [← HT.out] at hA1
      rw [← HV.out] at hA2
      obtain ⟨⟨c1, hc1⟩, ⟨c2, hc2⟩, hf1, hf2⟩ := HK.out.cells hlt
      have hkn : ((k : Int) < (n : Int)) := by omega
      have HN : Hid (Fill w g n (k + 1) tg vl ((wr.setCell ⟨g, k * 2, none⟩ (.int .i64 T)).setCell ⟨g, k * 2 + 1, none⟩ (.string V))) := by
        have := HK.out.step (by have := HF.out.2.2; omega) hlt
        rw [HT.out, HV.out]; exact this
      go_wp2
      go_region
      go_wp2
      go_roundw
      case rel => exact ⟨k + 1, by omega, by go_num, HN.out.row, HN.out.bel.drew⟩
      case measure => simp [intOf]; omega
    · go_wp2
      go_ret
      obtain ⟨cur, h1, _, h3⟩ := HK.out.row
      exact ⟨g, rfl, ⟨cur, _, h1, fun i hi => h3 i (by omega)⟩, HK.out.bel⟩

theorem toFix_nil (tg : Nat → Int) (vl : Nat → ByteArray) (w : World) :
    Calls Tryd.prog 8 #[.slice none 0 0] w fun e w' => ∃ g, e = .returned (.slice (some ⟨g, 0, none⟩) 0 0) ∧ FieldsAt w' g 0 tg vl ∧ Below w.heap.size w w' := by
  obtain ⟨w1, hmk0, hfill⟩ := fill_start w 0 tg vl (by omega)
  have hmk : (Instr.makeSlice 29 (.int .i64 0) (.int .i64 0)).run Tryd.prog w = .ok (.slice (some ⟨w.heap.size, 0, none⟩) 0 0) w1 := hmk0
  have HF : Hid (Fill w w.heap.size 0 0 tg vl w1) := hfill
  clear hfill hmk0
  go_enter Tryd.func8, Tryd.ntmps8
  go_wp2
  go_loop [4] (fun ti => ti = .int .i64 0) (fun _ => 0)
  case atStart => rfl
  case round =>
    subst hrel
    go_wp2
    go_ret
    obtain ⟨cur, h1, _, _⟩ := HF.out.row
    exact ⟨_, rfl, ⟨cur, _, h1, fun i hi => by omega⟩, HF.out.bel⟩

end Go.Proofs.Qxb6629298aDoor
