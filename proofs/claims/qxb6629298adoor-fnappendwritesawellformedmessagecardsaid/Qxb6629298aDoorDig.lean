/- digits, walked. -/
import Derived.Test.Qxb6629298aDoorLeaf
import Derived.Lib.ItoaMem
namespace Go.Proofs.Qxb6629298aDoor
open Go.ChangeShapes Go.WideShapes Go.ChangeAt Go.RowKit

/-- what digits counts -/
def digs (n : Int) : Nat := if n < 10 then 1 else Lib.nDigits n.toNat
theorem digs_small {n : Int} (h : n < 10) : digs n = 1 := if_pos h
theorem digs_big {n : Int} (h : ¬ n < 10) : digs n = digs (n / 10) + 1 := by
  unfold digs
  rw [if_neg h, Lib.nDigits_big (by omega)]
  by_cases h2 : n / 10 < 10
  · rw [if_pos h2, Lib.nDigits_small (by omega)]
  · rw [if_neg h2, show (n / 10).toNat = n.toNat / 10 by omega]
theorem nDigits_pow (k : Nat) : ∀ u : Nat, u < 10 ^ (k + 1) → Lib.nDigits u ≤ k + 1 := by
  induction k with
  | zero => intro u h; rw [Lib.nDigits_small (by simpa using h)]; omega
  | succ k ih =>
    intro u h
    by_cases hu : u < 10
    · rw [Lib.nDigits_small hu]; omega
    · rw [Lib.nDigits_big hu]
      have := ih (u / 10) (by rw [Nat.pow_succ] at h; omega)
      omega
theorem digs_le (n : Int) (h : n ≤ 9223372036854775807) : 1 ≤ digs n ∧ digs n ≤ 19 := by
  unfold digs
  split
  · omega
  · have := nDigits_pow 18 n.toNat (by omega)
    have := Lib.nDigits_pos n.toNat
    omega

theorem digits_any (n : Int) (w : World) (hn : n ≤ 9223372036854775807) :
    Calls Tryd.prog 14 #[.int .i64 n] w fun e w' => e = .returned (.int .i64 (digs n : Int)) ∧ w = w' := by
  have HB := digs_le n hn
  obtain ⟨D, HD⟩ : ∃ D : Int, Hid (D = (digs n : Int)) := ⟨(digs n : Int), Eq.refl (digs n : Int)⟩
  have hD1 : 1 ≤ D := by rw [HD.out]; omega
  have hD2 : D ≤ 19 := by rw [HD.out]; omega
  clear HB
  go_enter Tryd.func14, Tryd.ntmps14
  go_wp2
  go_loop [0, 3] (fun tn td => ∃ m d : Int, tn = .int .i64 m ∧ td = .int .i64 d ∧ m ≤ 9223372036854775807 ∧ 1 ≤ d ∧ d ≤ 19 ∧ Hid (d + (digs m : Int) = D + 1)) (fun tn _ => (intOf tn).toNat)
  case atStart => exact ⟨n, 1, rfl, rfl, hn, by omega, by omega, by show _ = _; rw [HD.out]; omega⟩
  case round =>
    obtain ⟨m, d, rfl, rfl, hm, hd1, hd2, HK⟩ := hrel
    by_cases h10 : m < 10
    · have HE : Hid (d = D) := by have := HK.out; rw [digs_small h10] at this; show d = D; omega
      go_wp2
      go_ret
      refine ⟨?_, rfl⟩
      rw [← HD.out, ← HE.out]; rfl
    · have HE : Hid (d + 1 + (digs (m / 10) : Int) = D + 1) := by have := HK.out; rw [digs_big h10] at this; show _ = _; omega
      have hd3 : d + 1 ≤ 19 := by have := HE.out; have := (digs_le (m / 10) (by omega)).1; omega
      have h10' : 10 ≤ m := by omega
      go_wp2
      go_round
      case rel => exact ⟨m / 10, d + 1, rfl, rfl, by omega, by omega, hd3, HE.out⟩
      case measure => simp [intOf]; omega

end Go.Proofs.Qxb6629298aDoor
