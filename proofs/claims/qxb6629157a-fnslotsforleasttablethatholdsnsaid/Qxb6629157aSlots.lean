import Derived.Test.Qxb6629157aRows
import Derived.WalkKit
import Derived.ProofKit
namespace Go.Proofs.Qxb6629157a
open Go.ChangeShapes Go.WideShapes Go.ChangeAt Go.RowKit

/-- the table sizes: 8, 16, 32, .. -/
def sz (k : Nat) : Int := 8 * (2 : Int) ^ k
theorem sz_zero : sz 0 = 8 := rfl
theorem sz_succ (k : Nat) : sz (k + 1) = 2 * sz k := by unfold sz; rw [Int.pow_succ]; omega
theorem sz_ge (k : Nat) : 8 ≤ sz k := by
  induction k with
  | zero => simp [sz_zero]
  | succ k ih => rw [sz_succ]; omega

/-- what slotsFor does for 1 ≤ n, said of the answer -/
structure Fit (n : Int) (k : Nat) : Prop where
  up : 4 * n ≤ 3 * sz k
  lo : ∀ j : Nat, j < k → 3 * sz j < 4 * n

theorem ret_int {k : IntKind} {a b : Int} (h : a = b) : Ending.returned (.int k a) = .returned (.int k b) := by rw [h]

theorem slots_zero (w : World) : Calls Try.prog 6 #[.int .i64 0] w fun e w' => e = .returned (.int .i64 0) ∧ w' = w := by
  go_enter Try.func6, Try.ntmps6
  go_wp2
  go_ret
  exact ⟨rfl, rfl⟩

theorem sz_mono {j k : Nat} (h : j ≤ k) : sz j ≤ sz k := by
  induction k with
  | zero => obtain rfl : j = 0 := by omega
            exact Int.le_refl _
  | succ k ih =>
    by_cases e : j = k + 1
    · subst e; exact Int.le_refl _
    · have := ih (by omega); have := sz_ge k; rw [sz_succ]; omega

set_option maxHeartbeats 400000 in
theorem slots_any (n : Int) (k : Nat) (w : World) (h1 : 1 ≤ n) (h2 : n ≤ 1500000000000000000) (hf : Fit n k) (hk : sz k ≤ 2500000000000000000) :
    Calls Try.prog 6 #[.int .i64 n] w fun e w' => e = .returned (.int .i64 (sz k)) ∧ w' = w := by
  obtain ⟨hu, hl⟩ := hf
  have hn0 : ¬ n = 0 := by omega
  go_enter Try.func6, Try.ntmps6
  go_wp2
  go_loop [3] (fun t => ∃ j : Nat, j ≤ k ∧ t = .int .i64 (sz j)) (fun t => (sz k - intOf t).toNat)
  case atStart => exact ⟨0, Nat.zero_le _, rfl⟩
  case round =>
    obtain ⟨j, hj, rfl⟩ := hrel
    have hg := sz_ge j
    have hm := sz_mono hj
    by_cases hlt : j < k
    · have hc := hl j hlt
      have hs := sz_succ j
      have hm2 : sz (j+1) ≤ sz k := sz_mono hlt
      have HS : Hid (sz (j + 1) = 2 * sz j) := hs
      rw [hs] at hm2
      clear hs
      go_wp2
      go_round
      case rel => exact ⟨j + 1, by omega, by rw [HS.out]; go_num⟩
      case measure => simp [intOf]; omega
    · obtain rfl : j = k := by omega
      go_wp2
      go_ret
      exact ⟨rfl, rfl⟩

theorem zz_zero (w : World) : Calls Try.prog 5 #[.int .i64 0] w fun e w' => e = .returned (.int .i64 0) ∧ w' = w := by
  go_enter Try.func5, Try.ntmps5
  go_wp2_with (go_at_call 6; refine (slots_zero _).mono ?_; rintro e w' ⟨rfl, rfl⟩)
  go_ret
  exact ⟨rfl, rfl⟩

theorem zz_any (n : Int) (k : Nat) (w : World) (h1 : 1 ≤ n) (h2 : n ≤ 1500000000000000000) (hf : Fit n k) (hk : sz k ≤ 2500000000000000000) :
    Calls Try.prog 5 #[.int .i64 n] w fun e w' => e = .returned (.int .i64 (sz k)) ∧ w' = w := by
  have H : Hid (Fit n k) := hf
  clear hf
  go_enter Try.func5, Try.ntmps5
  go_wp2_with (go_at_call 6; refine (slots_any n k _ h1 h2 H.out hk).mono ?_; rintro e w' ⟨rfl, rfl⟩)
  go_ret
  exact ⟨rfl, rfl⟩

/-! ### the plain arithmetic -/
theorem fit_below (n : Int) (K : Nat) (h : 4 * n ≤ 3 * sz K) : ∃ k, k ≤ K ∧ Fit n k := by
  induction K with
  | zero => exact ⟨0, Nat.le_refl _, h, fun j hj => absurd hj (Nat.not_lt_zero _)⟩
  | succ K ih =>
    by_cases h' : 4 * n ≤ 3 * sz K
    · obtain ⟨k, hk, hf⟩ := ih h'
      exact ⟨k, by omega, hf⟩
    · refine ⟨K + 1, Nat.le_refl _, h, fun j hj => ?_⟩
      have := sz_mono (show j ≤ K by omega)
      omega

theorem sz57 : sz 57 = 1152921504606846976 := by decide +kernel

theorem fit_some (n : Int) (h : n ≤ 576460752303423487) : ∃ k, k ≤ 57 ∧ Fit n k :=
  fit_below n 57 (by rw [sz57]; omega)

theorem sz_and (k : Nat) (hk : k ≤ 57) : bits .and .i64 (sz k) (sz k - 1) = 0 := by
  have h : ∀ k : Fin 58, bits .and .i64 (sz k.val) (sz k.val - 1) = 0 := by decide +kernel
  exact h ⟨k, by omega⟩

theorem sz_8 (k : Nat) : ∃ m : Int, sz k = 8 * m := ⟨(2 : Int) ^ k, rfl⟩

theorem fit_top (k : Nat) : Fit (sz k / 4 * 3) k := by
  obtain ⟨m, hm⟩ := sz_8 k
  refine ⟨by omega, fun j hj => ?_⟩
  have h1 := sz_mono (show j + 1 ≤ k by omega)
  have h2 := sz_ge j
  rw [sz_succ] at h1
  omega

theorem fit_over (k : Nat) : Fit (sz k / 4 * 3 + 1) (k + 1) := by
  obtain ⟨m, hm⟩ := sz_8 k
  have h8 := sz_ge k
  refine ⟨by rw [sz_succ]; omega, fun j hj => ?_⟩
  have h1 := sz_mono (show j ≤ k by omega)
  omega

theorem fit_double (n : Int) (k : Nat) (hf : Fit n k) (h : 6 < 2 * n) : Fit (2 * n) (k + 1) := by
  obtain ⟨hu, hl⟩ := hf
  refine ⟨by rw [sz_succ]; omega, fun j hj => ?_⟩
  cases j with
  | zero => rw [sz_zero]; omega
  | succ j => have := hl j (by omega); rw [sz_succ]; omega

theorem fit_small (n : Int) (k : Nat) (hf : Fit n k) (h : 2 * n ≤ 6) : k = 0 := by
  cases k with
  | zero => rfl
  | succ k => have := hf.lo 0 (by omega); rw [sz_zero] at this; omega

end Go.Proofs.Qxb6629157a
