/- numberSet.has, walked: linear at eight bounds or fewer, by slices.BinarySearch above. -/
import Derived.Test.Qxb6629255aRows
import Derived.WalkKit
import Derived.ProofKit
import Derived.WalkSpells
import Derived.Below
namespace Go.Proofs.Qxb6629255a
open Go.ChangeShapes Go.WideShapes Go.ChangeAt Go.RowKit

/-- each bound is greater than the one before it -/
def Asc (n : Nat) (f : Nat → Int) : Prop := ∀ i, i + 1 < n → f i < f (i + 1)
/-- how many bounds are x or less -/
structure Cut (n : Nat) (f : Nat → Int) (x : Int) (c : Nat) : Prop where
  le : c ≤ n
  lo : ∀ i, i < c → f i ≤ x
  hi : ∀ i, c ≤ i → i < n → x < f i
/-- the cells -/
def Cells (w : World) (a : Addr) (n : Nat) (f : Nat → Int) : Prop := ∀ i, i < n → w.cell? (a.add i) = some (.int .u32 (f i))
/-- odd -/
def par (c : Nat) : Bool := c % 2 == 1

theorem asc_lt {n : Nat} {f : Nat → Int} (h : Asc n f) {i j : Nat} (hij : i < j) (hj : j < n) : f i < f j := by
  induction j with
  | zero => omega
  | succ j ih =>
    have h1 := h j hj
    by_cases e : i = j
    · subst e; exact h1
    · have := ih (by omega) (by omega); omega

theorem cut_some (n : Nat) (f : Nat → Int) (x : Int) (h : Asc n f) : ∃ c, Cut n f x c := by
  induction n with
  | zero => exact ⟨0, Nat.le_refl _, fun i hi => by omega, fun i _ hi => by omega⟩
  | succ n ih =>
    obtain ⟨c, h1, h2, h3⟩ := ih (fun i hi => h i (by omega))
    by_cases e : c = n ∧ f n ≤ x
    · refine ⟨n + 1, Nat.le_refl _, fun i hi => ?_, fun i hi hn => by omega⟩
      by_cases e2 : i = n
      · subst e2; exact e.2
      · exact h2 i (by omega)
    · refine ⟨c, by omega, h2, fun i hi hn => ?_⟩
      by_cases e2 : i = n
      · subst e2
        by_cases e3 : c = i
        · have : ¬ f i ≤ x := fun h => e ⟨e3, h⟩
          omega
        · have := h3 c (Nat.le_refl _) (by omega)
          have := asc_lt h (show c < i by omega) hn
          omega
      · exact h3 i hi (by omega)

theorem ret_bool {a b : Bool} (h : a = b) : Ending.returned (.bool a) = .returned (.bool b) := by rw [h]

theorem par_int (c : Nat) : (((c : Int) % 2) == 1) = par c := by
  unfold par
  rw [Bool.eq_iff_iff]; simp; omega

set_option maxHeartbeats 400000 in
theorem has_short (a : Addr) (n cap : Nat) (f : Nat → Int) (x : Int) (c : Nat) (w : World) (hn : n ≤ 8) (hc : Cells w a n f) (hcut : Cut n f x c) :
    Calls Try.prog 9 #[.slice (some a) n cap, .int .u32 x] w fun e w' => e = .returned (.bool (par c)) ∧ w = w' := by
  have HC : Hid (Cells w a n f ∧ Cut n f x c) := ⟨hc, hcut⟩
  have hle := hcut.le
  clear hc hcut
  go_enter Try.func9, Try.ntmps9
  go_wp2
  go_loop [5] (fun ti => ∃ k : Nat, k ≤ c ∧ ti = .int .i64 k) (fun ti => n - (intOf ti).toNat)
  case atStart => exact ⟨0, Nat.zero_le _, rfl⟩
  case round =>
    obtain ⟨k, hk, rfl⟩ := hrel
    by_cases hlt : k < c
    · have hcell := HC.out.1 k (by omega)
      have hfx := HC.out.2.lo k hlt
      have hkn : k < n := by omega
      have hkn' : decide ((k : Int) < (n : Int)) = true := by simp; omega
      go_wp2
      go_round
      case rel => exact ⟨k + 1, by omega, by go_num⟩
      case measure => simp [intOf]; omega
    · obtain rfl : k = c := by omega
      by_cases hkn : k < n
      · have hcell := HC.out.1 k hkn
        have hfx : ¬ f k ≤ x := by have := HC.out.2.hi k (Nat.le_refl _) hkn; omega
        have hkn' : decide ((k : Int) < (n : Int)) = true := by simp; omega
        go_wp2
        go_ret
        exact ⟨ret_bool (par_int _), rfl⟩
      · have hkn' : decide ((k : Int) < (n : Int)) = false := by simp; omega
        go_wp2
        go_ret
        exact ⟨ret_bool (par_int _), rfl⟩

theorem less_any (a b : Int) (w : World) : Calls Try.prog 11 #[.int .u32 a, .int .u32 b] w fun e w' => e = .returned (.bool (decide (a < b))) ∧ w = w' := by
  go_enter Try.func11, Try.ntmps11
  go_wp2
  go_ret
  exact ⟨rfl, rfl⟩

theorem nan_any (a : Int) (w : World) : Calls Try.prog 12 #[.int .u32 a] w fun e w' => e = .returned (.bool false) ∧ w = w' := by
  go_enter Try.func12, Try.ntmps12
  go_wp2
  go_ret
  exact ⟨rfl, rfl⟩

/-- where slices.BinarySearch ends -/
structure Found (n : Nat) (f : Nat → Int) (x : Int) (i : Nat) : Prop where
  le : i ≤ n
  lo : ∀ k, k < i → f k < x
  hi : ∀ k, i ≤ k → k < n → x ≤ f k

def SearchAns (n : Nat) (f : Nat → Int) (x : Int) (e : Ending) : Prop :=
  ∃ (i : Nat) (b : Bool), e = .returned (.tuple #[.int .i64 i, .bool b]) ∧ Found n f x i ∧ (b = true ↔ i < n ∧ f i = x)

set_option maxHeartbeats 400000 in
theorem search_any (a : Addr) (n cap : Nat) (f : Nat → Int) (x : Int) (w : World) (hn : n ≤ 1048576) (hc : Cells w a n f) (ha : Asc n f) :
    Calls Try.prog 10 #[.slice (some a) n cap, .int .u32 x] w fun e w' => SearchAns n f x e ∧ w = w' := by
  have HC : Hid (Cells w a n f ∧ Asc n f) := ⟨hc, ha⟩
  clear hc ha
  go_enter Try.func10, Try.ntmps10
  go_wp2
  go_loop [7, 8] (fun ti tj => ∃ i j : Nat, i ≤ j ∧ j ≤ n ∧ ti = .int .i64 i ∧ tj = .int .i64 j ∧ Hid ((∀ k, k < i → f k < x) ∧ (∀ k, j ≤ k → k < n → x ≤ f k))) (fun ti tj => (intOf tj - intOf ti).toNat)
  case atStart => exact ⟨0, n, Nat.zero_le _, Nat.le_refl _, rfl, rfl, (fun k hk => by omega), fun k h1 h2 => by omega⟩
  case round =>
    obtain ⟨i, j, hij, hjn, rfl, rfl, HK⟩ := hrel
    by_cases hlt : i < j
    · obtain ⟨V, HV⟩ : ∃ V : Int, Hid (V = f ((i + j) / 2)) := ⟨f ((i + j) / 2), Eq.refl (f ((i + j) / 2))⟩
      have hcell : w.cell? (a.add ((i + j) / 2)) = some (.int .u32 V) := by rw [HV.out]; exact HC.out.1 _ (by omega)
      by_cases hv : V < x
      · go_wp2_with (go_at_call 11; refine (less_any _ _ _).mono ?_; rintro e w' ⟨rfl, rfl⟩)
        go_round
        case rel =>
          refine ⟨(i + j) / 2 + 1, j, by omega, by omega, by go_num, rfl, fun k hk => ?_, HK.out.2⟩
          by_cases e : k = (i + j) / 2
          · rw [e, ← HV.out]; exact hv
          · have := asc_lt HC.out.2 (show k < (i + j) / 2 by omega) (by omega)
            have := HV.out; omega
        case measure => simp [intOf]; omega
      · go_wp2_with (go_at_call 11; refine (less_any _ _ _).mono ?_; rintro e w' ⟨rfl, rfl⟩)
        go_round
        case rel =>
          refine ⟨i, (i + j) / 2, by omega, by omega, rfl, by go_num, HK.out.1, fun k h1 h2 => ?_⟩
          by_cases e : k = (i + j) / 2
          · rw [e, ← HV.out]; omega
          · have := asc_lt HC.out.2 (show (i + j) / 2 < k by omega) h2
            have := HV.out; omega
        case measure => simp [intOf]; omega
    · obtain rfl : i = j := by omega
      have hF : Found n f x i := ⟨hjn, HK.out.1, HK.out.2⟩
      have HF : Hid (Found n f x i) := hF
      clear hF HK
      by_cases hin : i < n
      · obtain ⟨V, HV⟩ : ∃ V : Int, Hid (V = f i) := ⟨f i, Eq.refl (f i)⟩
        have hcell : w.cell? (a.add i) = some (.int .u32 V) := by rw [HV.out]; exact HC.out.1 _ hin
        have hin' : decide ((i : Int) < (n : Int)) = true := by simp; omega
        by_cases hv : V = x
        · subst hv
          go_wp2_with (go_at_call 12; refine (nan_any _ _).mono ?_; rintro e w' ⟨rfl, rfl⟩)
          go_ret2
          exact ⟨⟨i, true, rfl, HF.out, ⟨fun _ => ⟨hin, HV.out.symm⟩, fun _ => rfl⟩⟩, rfl⟩
        · have hv' : (V == x) = false := by simp; exact hv
          go_wp2_with (go_at_call 12; refine (nan_any _ _).mono ?_; rintro e w' ⟨rfl, rfl⟩)
          go_ret2
          exact ⟨⟨i, false, rfl, HF.out, ⟨(fun h => by cases h), fun h => absurd (HV.out.trans h.2) hv⟩⟩, rfl⟩
      · have hin' : decide ((i : Int) < (n : Int)) = false := by simp; omega
        go_wp2_with fail
        go_ret2
        exact ⟨⟨i, false, rfl, HF.out, ⟨(fun h => by cases h), fun h => absurd h.1 hin⟩⟩, rfl⟩

theorem cut_unique {n : Nat} {f : Nat → Int} {x : Int} {c d : Nat} (h : Cut n f x c) (g : Cut n f x d) : c = d := by
  rcases Nat.lt_trichotomy c d with e | e | e
  · have := h.hi c (Nat.le_refl _) (by have := g.le; omega); have := g.lo c e; omega
  · exact e
  · have := g.hi d (Nat.le_refl _) (by have := h.le; omega); have := h.lo d e; omega

theorem found_cut {n : Nat} {f : Nat → Int} {x : Int} {i c : Nat} {b : Bool} (ha : Asc n f) (hF : Found n f x i) (hb : b = true ↔ i < n ∧ f i = x) (hc : Cut n f x c) : c = if b then i + 1 else i := by
  cases b
  · show c = i
    refine cut_unique hc ⟨hF.le, fun k hk => by have := hF.lo k hk; omega, fun k h1 h2 => ?_⟩
    have hx := hF.hi k h1 h2
    by_cases e : f k = x
    · exfalso
      have hi : i < n := by omega
      have hne : f i ≠ x := fun e => by have := hb.2 ⟨hi, e⟩; cases this
      have := hF.hi i (Nat.le_refl _) hi
      by_cases e2 : i = k
      · exact hne (e2 ▸ e)
      · have := asc_lt ha (show i < k by omega) h2; omega
    · omega
  · show c = i + 1
    obtain ⟨h1, h2⟩ := hb.1 rfl
    refine cut_unique hc ⟨h1, fun k hk => ?_, fun k h3 h4 => ?_⟩
    · by_cases e : k = i
      · rw [e]; omega
      · have := hF.lo k (by omega); omega
    · have := asc_lt ha (show i < k by omega) h4; omega

set_option maxHeartbeats 400000 in
theorem has_long (a : Addr) (n cap : Nat) (f : Nat → Int) (x : Int) (c : Nat) (w : World) (h8 : 8 < n) (hn : n ≤ 1048576) (hc : Cells w a n f) (ha : Asc n f) (hcut : Cut n f x c) :
    Calls Try.prog 9 #[.slice (some a) n cap, .int .u32 x] w fun e w' => e = .returned (.bool (par c)) ∧ w = w' := by
  have HC : Hid (Cells w a n f ∧ Asc n f ∧ Cut n f x c) := ⟨hc, ha, hcut⟩
  have h8' : ¬ (n : Int) ≤ 8 := by omega
  clear hc ha hcut
  go_enter Try.func9, Try.ntmps9
  go_wp2_with fail
  refine (search_any a n cap f x _ hn HC.out.1 HC.out.2.1).mono ?_
  rintro e w' ⟨⟨i, b, rfl, hF, hb⟩, rfl⟩
  have hi := hF.le
  have he := found_cut HC.out.2.1 hF hb HC.out.2.2
  have HE : Hid (c = if b then i + 1 else i) := he
  clear he hF hb HC
  cases b
  · go_wp2_with fail
    go_ret
    exact ⟨ret_bool (by rw [HE.out]; exact par_int _), rfl⟩
  · go_wp2_with fail
    go_ret
    exact ⟨ret_bool (by rw [HE.out]; exact par_int (i + 1)), rfl⟩

/-- numberSet.has, by ZZnumberSetHas -/
theorem has_any (a : Addr) (n cap : Nat) (f : Nat → Int) (x : Int) (c : Nat) (w : World) (hn : n ≤ 1048576) (hc : Cells w a n f) (ha : Asc n f) (hcut : Cut n f x c) :
    Calls Try.prog 7 #[.slice (some a) n cap, .int .u32 x] w fun e w' => e = .returned (.bool (par c)) ∧ w = w' := by
  have h : Calls Try.prog 9 #[.slice (some a) n cap, .int .u32 x] w fun e w' => e = .returned (.bool (par c)) ∧ w = w' := by
    by_cases h8 : n ≤ 8
    · exact has_short a n cap f x c w h8 hc hcut
    · exact has_long a n cap f x c w (by omega) hn hc ha hcut
  have H : Hid (Calls Try.prog 9 #[.slice (some a) n cap, .int .u32 x] w fun e w' => e = .returned (.bool (par c)) ∧ w = w') := h
  clear h hc ha hcut
  go_enter Try.func7, Try.ntmps7
  go_wp2_with fail
  refine H.out.mono ?_
  rintro e w' ⟨rfl, rfl⟩
  go_wp2_with fail
  go_ret
  exact ⟨rfl, rfl⟩

theorem has_nil (x : Int) (w : World) : Calls Try.prog 7 #[.slice none 0 0, .int .u32 x] w fun e w' => e = .returned (.bool false) ∧ w = w' := by
  have h9 : Calls Try.prog 9 #[.slice none 0 0, .int .u32 x] w fun e w' => e = .returned (.bool false) ∧ w = w' := by
    go_enter Try.func9, Try.ntmps9
    go_wp2
    go_loop [5] (fun ti => ti = .int .i64 0) (fun _ => 0)
    case atStart => rfl
    case round =>
      subst hrel
      go_wp2
      go_ret
      exact ⟨rfl, rfl⟩
  have H : Hid (Calls Try.prog 9 #[.slice none 0 0, .int .u32 x] w fun e w' => e = .returned (.bool false) ∧ w = w') := h9
  clear h9
  go_enter Try.func7, Try.ntmps7
  go_wp2_with fail
  refine H.out.mono ?_
  rintro e w' ⟨rfl, rfl⟩
  go_wp2_with fail
  go_ret
  exact ⟨rfl, rfl⟩

end Go.Proofs.Qxb6629255a
