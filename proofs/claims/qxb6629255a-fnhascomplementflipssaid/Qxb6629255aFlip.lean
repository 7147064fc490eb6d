/- The walk of the law FnHasComplementFlips. -/
import Derived.Test.Qxb6629255aAsc
namespace Go.Proofs.Qxb6629255a
open Go.ChangeShapes Go.WideShapes Go.ChangeAt Go.RowKit

theorem bytes8 (p : Option Addr) (n c : Nat) (x : Int) (w : World) (hn : n ≤ 1048576) :
    Calls Try.prog 8 #[.slice p n c, .int .u32 x] w fun e w' => e = .returned (.bool true) ∧ w = w' := by
  go_enter Try.func8, Try.ntmps8
  go_wp2
  go_ret
  exact ⟨rfl, rfl⟩

theorem flip_long (a0 : Option Addr) (n c : Nat) (x : Int) (w : World) (hn : 262144 < n) (hm : n ≤ 9223372036854775807) :
    Calls Try.prog 4 #[.slice a0 n c, .int .u32 x] w fun e w' => e = .returned (.bool true) ∧ w = w' := by
  by_cases h : 1048576 < n
  · go_enter Try.func4, Try.ntmps4
    go_wp2
    go_ret
    exact ⟨rfl, rfl⟩
  · go_enter Try.func4, Try.ntmps4
    go_wp2
    go_ret
    exact ⟨rfl, rfl⟩

/-! ### the plain law -/
theorem par_succ (c : Nat) : par (c + 1) = !par c := by
  unfold par
  rw [Bool.eq_iff_iff]; simp; omega
/-- the complement of a set whose first bound is 0 -/
theorem cut_tail {n : Nat} {f : Nat → Int} {x : Int} {c : Nat} (h : Cut (n + 1) f x c) (h0 : f 0 = 0) (hx : 0 ≤ x) : ∃ d, c = d + 1 ∧ Cut n (fun i => f (i + 1)) x d := by
  cases c with
  | zero => have := h.hi 0 (Nat.le_refl _) (by omega); omega
  | succ d =>
    refine ⟨d, rfl, by have := h.le; omega, fun i hi => h.lo (i + 1) (by omega), fun i h1 h2 => h.hi (i + 1) (by omega) (by omega)⟩
theorem asc_tail {n : Nat} {f : Nat → Int} (h : Asc (n + 1) f) : Asc n (fun i => f (i + 1)) := fun i hi => h (i + 1) (by omega)
/-- a bound 0 put in front -/
def front (f : Nat → Int) (i : Nat) : Int := if i = 0 then 0 else f (i - 1)
theorem cut_front {n : Nat} {f : Nat → Int} {x : Int} {c : Nat} (h : Cut n f x c) (hx : 0 ≤ x) : Cut (n + 1) (front f) x (c + 1) := by
  refine ⟨by have := h.le; omega, fun i hi => ?_, fun i h1 h2 => ?_⟩
  · unfold front
    split
    · exact hx
    · exact h.lo (i - 1) (by omega)
  · unfold front
    rw [if_neg (by omega)]
    exact h.hi (i - 1) (by omega) (by omega)
theorem asc_front {n : Nat} {f : Nat → Int} (h : Asc n f) (h0 : 0 < n → 0 < f 0) : Asc (n + 1) (front f) := by
  intro i hi
  unfold front
  rw [if_neg (show ¬ i + 1 = 0 by omega)]
  split
  · rename_i e; subst e; exact h0 (by omega)
  · have := h (i - 1) (by omega)
    rw [show i - 1 + 1 = i by omega] at this
    simpa using this

/-- the row while it is filled -/
def upTo (f : Nat → Int) (k i : Nat) : Int := if i ≤ k then front f i else 0
theorem row_congr {n : Nat} {g h : Nat → Int} (e : ∀ i, i < n → g i = h i) : row n g = row n h := by
  unfold row
  exact List.map_congr_left fun i hi => by rw [e i (List.mem_range.1 hi)]
theorem upTo_zero (n : Nat) (f : Nat → Int) : row n (fun _ => 0) = row n (upTo f 0) :=
  row_congr fun i _ => by unfold upTo front; split <;> simp_all
theorem upTo_all (n : Nat) (f : Nat → Int) : row (n + 1) (upTo f n) = row (n + 1) (front f) :=
  row_congr fun i hi => by unfold upTo; rw [if_pos (by omega)]
theorem set_row {w : World} {g n k : Nat} {f : Nat → Int} {V : Int} (hV : V = f k) (h : w.heap[g]? = some (.cells (row (n + 1) (upTo f k)).toArray 23 (0, 0))) :
    (w.setCell ⟨g, k + 1, none⟩ (.int .u32 V)).heap[g]? = some (.cells (row (n + 1) (upTo f (k + 1))).toArray 23 (0, 0)) := by
  rw [setCell_eq_setRow w g (k + 1) _ 23 (0, 0) _ h, setRow_heap w g _ _ 23 _ h]
  congr 2
  apply Array.ext
  · simp [row]
  · intro i h1 h2
    have h3 : i < (row (n + 1) (upTo f k)).toArray.size := by simpa [row] using h2
    rw [Array.getElem_setIfInBounds h3]
    simp only [List.getElem_toArray, row, List.getElem_map, List.getElem_range]
    split
    · rename_i e
      subst e
      unfold upTo front
      rw [if_pos (Nat.le_refl _), if_neg (by omega), hV]
      rfl
    · unfold upTo
      congr 1
      by_cases e : i ≤ k
      · rw [if_pos e, if_pos (by omega)]
      · rw [if_neg e, if_neg (by omega)]
theorem cell_row {w : World} {g n k : Nat} {f : Nat → Int} (hk : k < n) (h : w.heap[g]? = some (.cells (row n f).toArray 23 (0, 0))) :
    w.cell? ⟨g, k, none⟩ = some (.int .u32 (f k)) ∧ w.frozen? ⟨g, k, none⟩ = false := by
  constructor
  · simp [World.cell?, h, row_at n f k hk]
  · simp [World.frozen?, h]

set_option maxHeartbeats 1000000 in
theorem flip_nil (x : Int) (hx : 0 ≤ x) (w : World) :
    Calls Try.prog 4 #[.slice none 0 0, .int .u32 x] w fun e w' => e = .returned (.bool true) ∧ Below w.heap.size w w' := by
  have hne := neq22
  obtain ⟨w1, hmk0, hg1, hb1, hs1⟩ := make_row w 1 (by omega)
  have hmk : (Instr.makeSlice 22 (.int .i64 1) (.int .i64 1)).run Try.prog w = .ok (.slice (some ⟨w.heap.size, 0, none⟩) 1 1) w1 := hmk0
  have HW : Hid (Cells w1 ⟨w.heap.size, 0, none⟩ 1 (fun _ => 0) ∧ Cut 1 (fun _ => 0) x 1 ∧ Asc 1 (fun _ => 0)) :=
    ⟨row_cells hg1, ⟨Nat.le_refl _, fun i _ => hx, fun i h1 h2 => by omega⟩, fun i h => by omega⟩
  have hp : par 1 = true := rfl
  clear hg1 hs1 hmk0
  go_enter Try.func4, Try.ntmps4
  go_wp2_with (first | (go_at_call 8; refine (bytes8 _ _ _ _ _ (by omega)).mono ?_; rintro e w' ⟨rfl, rfl⟩) | (go_at_call 6; refine (asc_nil _).mono ?_; rintro e w' ⟨rfl, rfl⟩))
  go_loop [7] (fun ti => ti = .int .i64 0) (fun _ => 0)
  case atStart => rfl
  case round =>
    subst hrel
    go_wp2_with fail
    refine (has_any _ 1 1 _ x 1 _ (by omega) HW.out.1 HW.out.2.2 HW.out.2.1).mono ?_
    rintro e w' ⟨rfl, rfl⟩
    go_wp2_with fail
    refine (has_nil _ _).mono ?_
    rintro e w' ⟨rfl, rfl⟩
    go_wp2_with fail
    go_ret
    exact ⟨rfl, hb1⟩

set_option maxHeartbeats 1000000 in
theorem flip_some (a : Addr) (n cap : Nat) (f : Nat → Int) (x : Int) (hx : 0 ≤ x) (w : World) (hn : n ≤ 262144) (hc : Cells w a n f) (hpos : ∀ i, i < n → 0 ≤ f i) :
    Calls Try.prog 4 #[.slice (some a) n cap, .int .u32 x] w fun e w' => e = .returned (.bool true) ∧ Below w.heap.size w w' := by
  have HC : Hid (Cells w a n f ∧ ∀ i, i < n → 0 ≤ f i) := ⟨hc, hpos⟩
  have hne := neq22
  clear hc hpos
  go_enter Try.func4, Try.ntmps4
  go_wp2_with (go_at_call 8; refine (bytes8 _ _ _ _ _ (by omega)).mono ?_; rintro e w' ⟨rfl, rfl⟩)
  refine (asc_any a n cap f _ (by omega) HC.out.1).mono ?_
  rintro e w' ⟨⟨b, rfl, hb⟩, m, rfl⟩
  cases b
  · go_wp2_with fail
    go_ret
    exact ⟨rfl, below_drewN _ _⟩
  · have ha := hb rfl
    obtain ⟨c, hcut⟩ := cut_some n f x ha
    obtain ⟨w1, hmk, hg1, hb1, hs1⟩ := make_row (w.drewN m) n (by omega)
    have hcells1 : Cells w1 a n f := (HC.out.1.below (below_drewN w m)).below hb1
    obtain ⟨w2, hcp, hg2, hb2, hs2⟩ := copy_row w1 (w.drewN m).heap.size n a cap f hcells1 hg1
    obtain ⟨g, hg⟩ : ∃ g, g = (w.drewN m).heap.size := ⟨_, rfl⟩
    rw [← hg] at hmk hcp hg2
    have hbel : Below w.heap.size w w2 := (below_drewN w m).trans (hb1.trans hb2)
    have HW : Hid (Cells w2 ⟨g, 0, none⟩ n f ∧ Asc n f ∧ Cut n f x c ∧ Below w.heap.size w w2 ∧ ∀ i, i < n → 0 ≤ f i) := ⟨row_cells hg2, ha, hcut, hbel, HC.out.2⟩
    clear hb ha hcut hg1 hb1 hs1 hcells1 hg2 hb2 hs2 hg hbel HC
    by_cases h0 : 0 < n ∧ f 0 = 0
    · obtain ⟨hn0, hf0⟩ := h0
      have hcell : w2.cell? ⟨g, 0, none⟩ = some (.int .u32 0) := by
        have := HW.out.1 0 hn0
        rw [show (⟨g, 0, none⟩ : Addr).add 0 = ⟨g, 0, none⟩ by simp [Addr.add]] at this
        rw [this, hf0]
      have hn0' : decide ((0 : Int) < (n : Int)) = true := by simp; omega
      have HT : Hid (∃ d, c = d + 1 ∧ Cut (n - 1) (fun i => f (i + 1)) x d) := cut_tail (n := n - 1) (by rw [show n - 1 + 1 = n by omega]; exact HW.out.2.2.1) hf0 hx
      have HA : Hid (Asc (n - 1) (fun i => f (i + 1))) := asc_tail (by rw [show n - 1 + 1 = n by omega]; exact HW.out.2.1)
      obtain ⟨d, hcd, hcutd⟩ := HT.out
      obtain ⟨b, HPd⟩ : ∃ b, Hid (par d = b) := ⟨par d, Eq.refl (par d)⟩
      have HPc : Hid (par c = !b) := by show par c = !b; rw [hcd, par_succ, HPd.out]
      have HCd : Hid (Cut (n - 1) (fun i => f (i + 1)) x d) := hcutd
      clear hf0 hcd hcutd HT
      by_cases hn2 : 1 < n
      · have HCl : Hid (Cells w2 ⟨g, 1, none⟩ (n - 1) (fun i => f (i + 1))) := fun i hi => by
          have := HW.out.1 (i + 1) (by omega)
          rw [show (⟨g, 0, none⟩ : Addr).add (i + 1) = (⟨g, 1, none⟩ : Addr).add i by
            have e1 : (⟨g, 0, none⟩ : Addr).add (i + 1) = ⟨g, i + 1, none⟩ := by simp [Addr.add]
            have e2 : (⟨g, 1, none⟩ : Addr).add i = ⟨g, 1 + i, none⟩ := by unfold Addr.add; split <;> simp_all
            rw [e1, e2, Nat.add_comm]] at this
          exact this
        go_wp2_with fail
        refine (has_any ⟨g, 1, none⟩ (n - 1) (n - 1) (fun i => f (i + 1)) x d _ (by omega) HCl.out HA.out HCd.out).mono ?_
        rintro e w' ⟨rfl, rfl⟩
        rw [HPd.out]
        go_wp2_with fail
        refine (has_any ⟨g, 0, none⟩ n n f x c _ (by omega) HW.out.1 HW.out.2.1 HW.out.2.2.1).mono ?_
        rintro e w' ⟨rfl, rfl⟩
        rw [HPc.out]
        cases b
        · go_wp2_with fail
          go_ret
          exact ⟨rfl, HW.out.2.2.2.1⟩
        · go_wp2_with fail
          go_ret
          exact ⟨rfl, HW.out.2.2.2.1⟩
      · obtain rfl : n = 1 := by omega
        have hmk' : (Instr.makeSlice 22 (.int .i64 1) (.int .i64 1)).run Try.prog (w.drewN m) = .ok (.slice (some ⟨g, 0, none⟩) 1 1) w1 := hmk
        have hcp' : ∀ ty, (Builtin.copy_ #[22, 22] ty #[.slice (some ⟨g, 0, none⟩) 1 1, .slice (some a) 1 cap]).run Try.prog w1 = .ok (goInt 1) w2 := hcp
        have HCl : Hid (Cells w2 ⟨g, 0, none⟩ 0 (fun i => f (i + 1))) := fun i hi => by omega
        clear hmk hcp hn2 hn0'
        go_wp2_with fail
        refine (has_any ⟨g, 0, none⟩ 0 0 (fun i => f (i + 1)) x d _ (by omega) HCl.out HA.out HCd.out).mono ?_
        rintro e w' ⟨rfl, rfl⟩
        rw [HPd.out]
        go_wp2_with fail
        refine (has_any ⟨g, 0, none⟩ 1 1 f x c _ (by omega) HW.out.1 HW.out.2.1 HW.out.2.2.1).mono ?_
        rintro e w' ⟨rfl, rfl⟩
        rw [HPc.out]
        cases b
        · go_wp2_with fail
          go_ret
          exact ⟨rfl, HW.out.2.2.2.1⟩
        · go_wp2_with fail
          go_ret
          exact ⟨rfl, HW.out.2.2.2.1⟩
    · obtain ⟨w3, hmk3, hg3, hb3, hs3⟩ := make_row w2 (n + 1) (by omega)
      have e3 : ((n + 1 : Nat) : Int) = (n : Int) + 1 := by omega
      rw [e3] at hmk3
      rw [upTo_zero (n + 1) f] at hg3
      obtain ⟨g2, hg2⟩ : ∃ g2, g2 = w2.heap.size := ⟨_, rfl⟩
      rw [← hg2] at hmk3 hg3 hb3
      have HF : Hid (Asc (n + 1) (front f) ∧ Cut (n + 1) (front f) x (c + 1)) := ⟨asc_front HW.out.2.1 (fun h => by
        have := HW.out.2.2.2.2 0 h
        have : f 0 ≠ 0 := fun e => h0 ⟨h, e⟩
        omega), cut_front HW.out.2.2.1 hx⟩
      obtain ⟨b, HPc⟩ : ∃ b, Hid (par c = b) := ⟨par c, Eq.refl (par c)⟩
      have HPd : Hid (par (c + 1) = !b) := by show par (c + 1) = !b; rw [par_succ, HPc.out]
      have HS : Hid (w3.heap[g2]? = some (.cells (row (n + 1) (upTo f 0)).toArray 23 (0, 0)) ∧ Below g2 w2 w3 ∧ g2 = w2.heap.size) := ⟨hg3, hb3, hg2⟩
      clear e3 hg3 hb3 hs3 hg2
      obtain ⟨tst, htst⟩ : ∃ V : Int, 0 < n → w2.cell? ⟨g, 0, none⟩ = some (.int .u32 V) ∧ (V == 0) = false := ⟨f 0, fun h => by
        have := HW.out.1 0 h
        rw [show (⟨g, 0, none⟩ : Addr).add 0 = ⟨g, 0, none⟩ by simp [Addr.add]] at this
        refine ⟨this, ?_⟩
        simp
        exact fun e => h0 ⟨h, e⟩⟩
      clear h0
      by_cases hn0 : 0 < n
      · obtain ⟨hcell, hV⟩ := htst hn0
        have hn0' : decide ((0 : Int) < (n : Int)) = true := by simp; omega
        clear htst
        go_wp2_with fail
        go_loopw [7] (fun ti wr => ∃ k : Nat, k ≤ n ∧ ti = .int .i64 k ∧ Hid (wr.heap[g2]? = some (.cells (row (n + 1) (upTo f k)).toArray 23 (0, 0)) ∧ Below g2 w2 wr)) (fun ti _ => n - (intOf ti).toNat)
        case atStart => exact ⟨0, Nat.zero_le _, rfl, HS.out.1, HS.out.2.1⟩
        case round =>
          obtain ⟨k, hk, rfl, HR⟩ := hrel
          by_cases hlt : k < n
          · obtain ⟨V, HV⟩ : ∃ V : Int, Hid (V = f k) := ⟨f k, Eq.refl (f k)⟩
            have hload : wr.cell? ⟨g, k, none⟩ = some (.int .u32 V) := by
              have h1 := HW.out.1 k hlt
              rw [show (⟨g, 0, none⟩ : Addr).add k = ⟨g, k, none⟩ by simp [Addr.add]; omega] at h1
              have hblk : g < w2.heap.size := by
                rcases Nat.lt_or_ge g w2.heap.size with h' | h'
                · exact h'
                · simp [World.cell?, Array.getElem?_eq_none h'] at h1
              have h2 := HR.out.2.cell (p := ⟨g, k, none⟩) (by show g < g2; have := HS.out.2.2; omega)
              rw [h2, h1, HV.out]
            obtain ⟨hst, hfz⟩ := cell_row (k := k + 1) (by omega) HR.out.1
            have HN : Hid ((wr.setCell ⟨g2, k + 1, none⟩ (.int .u32 V)).heap[g2]? = some (.cells (row (n + 1) (upTo f (k + 1))).toArray 23 (0, 0)) ∧ Below g2 w2 (wr.setCell ⟨g2, k + 1, none⟩ (.int .u32 V))) :=
              ⟨set_row HV.out HR.out.1, HR.out.2.setCell (Nat.le_refl _) _⟩
            clear HR
            go_wp2_with fail
            go_roundw
            case rel => exact ⟨k + 1, by omega, by go_num, HN.out⟩
            case measure => simp [intOf]; omega
          · obtain rfl : k = n := by omega
            have hrow := HR.out.1
            rw [upTo_all] at hrow
            have HX : Hid (Cells wr ⟨g2, 0, none⟩ (k + 1) (front f) ∧ Cells wr ⟨g, 0, none⟩ k f ∧ Below w.heap.size w wr) :=
              ⟨row_cells hrow, HW.out.1.below (by have := HS.out.2.2; rw [← this]; exact HR.out.2), HW.out.2.2.2.1.trans (HR.out.2.mono (by have := HS.out.2.2; have := HW.out.2.2.2.1.size; omega))⟩
            clear hrow HR HS
            go_wp2_with fail
            refine (has_any ⟨g2, 0, none⟩ (k + 1) (k + 1) (front f) x (c + 1) _ (by omega) HX.out.1 HF.out.1 HF.out.2).mono ?_
            rintro e w' ⟨rfl, rfl⟩
            rw [HPd.out]
            go_wp2_with fail
            refine (has_any ⟨g, 0, none⟩ k k f x c _ (by omega) HX.out.2.1 HW.out.2.1 HW.out.2.2.1).mono ?_
            rintro e w' ⟨rfl, rfl⟩
            rw [HPc.out]
            cases b
            · go_wp2_with fail
              go_ret
              exact ⟨rfl, HX.out.2.2⟩
            · go_wp2_with fail
              go_ret
              exact ⟨rfl, HX.out.2.2⟩
      · have hn0' : decide ((0 : Int) < (n : Int)) = false := by simp; omega
        clear htst
        go_wp2_with fail
        go_loopw [7] (fun ti wr => ∃ k : Nat, k ≤ n ∧ ti = .int .i64 k ∧ Hid (wr.heap[g2]? = some (.cells (row (n + 1) (upTo f k)).toArray 23 (0, 0)) ∧ Below g2 w2 wr)) (fun ti _ => n - (intOf ti).toNat)
        case atStart => exact ⟨0, Nat.zero_le _, rfl, HS.out.1, HS.out.2.1⟩
        case round =>
          obtain ⟨k, hk, rfl, HR⟩ := hrel
          by_cases hlt : k < n
          · exact absurd hlt (by omega)
          · obtain rfl : k = n := by omega
            have hrow := HR.out.1
            rw [upTo_all] at hrow
            have HX : Hid (Cells wr ⟨g2, 0, none⟩ (k + 1) (front f) ∧ Cells wr ⟨g, 0, none⟩ k f ∧ Below w.heap.size w wr) :=
              ⟨row_cells hrow, HW.out.1.below (by have := HS.out.2.2; rw [← this]; exact HR.out.2), HW.out.2.2.2.1.trans (HR.out.2.mono (by have := HS.out.2.2; have := HW.out.2.2.2.1.size; omega))⟩
            clear hrow HR HS
            go_wp2_with fail
            refine (has_any ⟨g2, 0, none⟩ (k + 1) (k + 1) (front f) x (c + 1) _ (by omega) HX.out.1 HF.out.1 HF.out.2).mono ?_
            rintro e w' ⟨rfl, rfl⟩
            rw [HPd.out]
            go_wp2_with fail
            refine (has_any ⟨g, 0, none⟩ k k f x c _ (by omega) HX.out.2.1 HW.out.2.1 HW.out.2.2.1).mono ?_
            rintro e w' ⟨rfl, rfl⟩
            rw [HPc.out]
            cases b
            · go_wp2_with fail
              go_ret
              exact ⟨rfl, HX.out.2.2⟩
            · go_wp2_with fail
              go_ret
              exact ⟨rfl, HX.out.2.2⟩

theorem flip_walk (a0 : Option Addr) (len0 cap0 : Nat) (z0 : List Int) (a1 : Int) (w : World) (w0 : IsRow .u32 w a0 len0 cap0 z0) (w1 : (Lit.int .u32 a1).wf = true) :
    Calls Try.prog 4 #[.slice a0 len0 cap0, .int .u32 a1] w fun e w' => e = .returned (.bool true) ∧ Below w.heap.size w w' := by
  have hb : 0 ≤ a1 ∧ a1 ≤ 4294967295 := by simpa [Lit.wf, IntKind.min, IntKind.max, IntKind.signed, IntKind.bits] using w1
  have hmax : len0 ≤ 9223372036854775807 := by
    rcases w0 with ⟨_, h, _⟩ | ⟨_, _, h1, h2, _⟩
    · omega
    · unfold maxLen at h2; omega
  by_cases hlong : 262144 < len0
  · exact (flip_long a0 len0 cap0 a1 w hlong hmax).mono fun e w' ⟨he, hw⟩ => ⟨he, by rw [← hw]; exact Below.refl _ _⟩
  · rcases w0.cells with ⟨rfl, rfl, rfl⟩ | ⟨x, f, rfl, hc, hp⟩
    · exact flip_nil a1 hb.1 w
    · exact flip_some x len0 cap0 f a1 hb.1 w (by omega) hc hp

end Go.Proofs.Qxb6629255a
