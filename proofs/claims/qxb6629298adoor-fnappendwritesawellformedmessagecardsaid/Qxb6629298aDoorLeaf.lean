/- The laws' own small helpers, walked: zzHasAt, zzTrailerOK; and digits. -/
import Derived.Test.Qxb6629298aDoorRows
import Derived.WalkKit
import Derived.ProofKit
import Derived.WalkSpells
import Derived.Below
import Derived.Deep.QuietTactic
import Derived.BigQuiet
namespace Go.Proofs.Qxb6629298aDoor
open Go.ChangeShapes Go.WideShapes Go.ChangeAt Go.RowKit

theorem below_drewN (w : World) (m : Nat) : Below w.heap.size w (w.drewN m) := ⟨rfl, rfl, rfl, Nat.le_refl _, fun _ _ => rfl⟩

/-- s stands in b from p on, cell for cell -/
def Stands (w : World) (b : Addr) (p : Nat) (a : Addr) (n : Nat) : Prop := ∀ k, k < n → ∃ V : Int, w.cell? (b.add (p + k)) = some (.int .u8 V) ∧ w.cell? (a.add k) = some (.int .u8 V)

set_option maxHeartbeats 400000 in
theorem hasAt_some (b a : Addr) (nb cb p n c : Nat) (w : World) (hp : p + n ≤ nb) (hm : nb ≤ 1000000000) (hs : Stands w b p a n) :
    Calls Tryd.prog 9 #[.slice (some b) nb cb, .int .i64 p, .slice (some a) n c] w fun e w' => e = .returned (.bool true) ∧ ∃ m, w' = w.drewN m := by
  have HS : Hid (Stands w b p a n) := hs
  have hp0 : decide ((p : Int) < 0) = false := by simp
  have hp1 : decide ((nb : Int) < (p : Int)) = false := by simp; omega
  have hp2 : decide ((nb : Int) - (p : Int) < (n : Int)) = false := by simp; omega
  clear hs
  go_enter Tryd.func9, Tryd.ntmps9
  go_wp2
  go_loopw [7] (fun ti wr => ∃ k m : Nat, k ≤ n ∧ ti = .int .i64 k ∧ wr = w.drewN m) (fun ti _ => n - (intOf ti).toNat)
  case atStart => exact ⟨0, 0, Nat.zero_le _, rfl, rfl⟩
  case round =>
    obtain ⟨k, m, hk, rfl, rfl⟩ := hrel
    by_cases hlt : k < n
    · obtain ⟨V, h1, h2⟩ := HS.out k hlt
      have hkn : ((k : Int) < (n : Int)) := by omega
      have hpk0 : (0 : Int) ≤ (p : Int) + (k : Int) := by omega
      have hpk : (p : Int) + (k : Int) < (nb : Int) := by omega
      go_wp2
      go_quiet (fail)
      go_wp2
      go_roundw
      case rel => exact ⟨k + 1, m + _, by omega, by go_num, rfl⟩
      case measure => simp [intOf]; omega
    · go_wp2
      go_ret
      exact ⟨rfl, m, rfl⟩

theorem hasAt_nil (b : Addr) (nb cb p : Nat) (w : World) (hp : p ≤ nb) (hm : nb ≤ 1000000000) :
    Calls Tryd.prog 9 #[.slice (some b) nb cb, .int .i64 p, .slice none 0 0] w fun e w' => e = .returned (.bool true) ∧ ∃ m, w' = w.drewN m := by
  have hp0 : decide ((p : Int) < 0) = false := by simp
  have hp1 : decide ((nb : Int) < (p : Int)) = false := by simp; omega
  have hp2 : decide ((nb : Int) - (p : Int) < 0) = false := by simp; omega
  go_enter Tryd.func9, Tryd.ntmps9
  go_wp2
  go_loop [7] (fun ti => ti = .int .i64 0) (fun _ => 0)
  case atStart => rfl
  case round =>
    subst hrel
    go_wp2
    go_ret
    exact ⟨rfl, 0, rfl⟩

/-- the sum of the first k numbers -/
def sumF (f : Nat → Int) : Nat → Int
  | 0 => 0
  | k + 1 => sumF f k + f k
theorem sumF_nonneg (f : Nat → Int) (k : Nat) (h : ∀ i, i < k → 0 ≤ f i) : 0 ≤ sumF f k := by
  induction k with
  | zero => exact Int.le_refl _
  | succ k ih => have := ih (fun i hi => h i (by omega)); have := h k (by omega); show 0 ≤ sumF f k + f k; omega

/-- what stands in the cells of a message of E + 7 bytes -/
structure Trail (w : World) (g o E : Nat) (f : Nat → Int) : Prop where
  cell : ∀ i, i < E + 7 → w.cell? ⟨g, o + i, none⟩ = some (.int .u8 (f i))
  lo : ∀ i, i < E + 7 → 0 ≤ f i
  hi : ∀ i, i < E + 7 → f i ≤ 255
  t0 : f E = 49
  t1 : f (E + 1) = 48
  t2 : f (E + 2) = 61
  t3 : f (E + 3) = 48 + sumF f E % 256 / 100
  t4 : f (E + 4) = 48 + sumF f E % 256 / 10 % 10
  t5 : f (E + 5) = 48 + sumF f E % 256 % 10
  t6 : f (E + 6) = 1

set_option maxHeartbeats 1000000 in
theorem trailer_ok (g o E c : Nat) (f : Nat → Int) (w : World) (hm : E ≤ 1000000000) (ht : Trail w g o E f) :
    Calls Tryd.prog 12 #[.slice (some ⟨g, o, none⟩) (E + 7) c] w fun e w' => e = .returned (.bool true) ∧ ∃ m, w' = w.drewN m := by
  have HT : Hid (Trail w g o E f) := ht
  have c0 : w.cell? ⟨g, o + E, none⟩ = some (.int .u8 49) := by rw [ht.cell E (by omega), ht.t0]
  have c1 : w.cell? ⟨g, o + (E + 1), none⟩ = some (.int .u8 48) := by rw [ht.cell (E + 1) (by omega), ht.t1]
  have c2 : w.cell? ⟨g, o + (E + 2), none⟩ = some (.int .u8 61) := by rw [ht.cell (E + 2) (by omega), ht.t2]
  have c6 : w.cell? ⟨g, o + (E + 6), none⟩ = some (.int .u8 1) := by rw [ht.cell (E + 6) (by omega), ht.t6]
  obtain ⟨S, HSu⟩ : ∃ S : Int, Hid (S = sumF f E % 256) := ⟨sumF f E % 256, Eq.refl (sumF f E % 256)⟩
  have hS0 : 0 ≤ S := by rw [HSu.out]; omega
  have hS1 : S ≤ 255 := by rw [HSu.out]; omega
  have c3 : w.cell? ⟨g, o + (E + 3), none⟩ = some (.int .u8 (48 + S / 100)) := by rw [ht.cell (E + 3) (by omega), ht.t3, HSu.out]
  have c4 : w.cell? ⟨g, o + (E + 4), none⟩ = some (.int .u8 (48 + S / 10 % 10)) := by rw [ht.cell (E + 4) (by omega), ht.t4, HSu.out]
  have c5 : w.cell? ⟨g, o + (E + 5), none⟩ = some (.int .u8 (48 + S % 10)) := by rw [ht.cell (E + 5) (by omega), ht.t5, HSu.out]
  clear ht
  go_enter Tryd.func12, Tryd.ntmps12
  go_wp2
  go_loop [4] (fun ti => ∃ k : Nat, 3 ≤ k ∧ k ≤ 6 ∧ ti = .int .i64 k) (fun ti => 6 - (intOf ti).toNat)
  case atStart => exact ⟨3, by omega, by omega, rfl⟩
  case round =>
    obtain ⟨k, hk1, hk2, rfl⟩ := hrel
    by_cases hlt : k < 6
    · obtain ⟨D, hD, hD1, hD2⟩ : ∃ D : Int, w.cell? ⟨g, o + (E + k), none⟩ = some (.int .u8 D) ∧ 48 ≤ D ∧ D ≤ 57 := by
        have : k = 3 ∨ k = 4 ∨ k = 5 := by omega
        rcases this with rfl | rfl | rfl
        · exact ⟨_, c3, by omega, by omega⟩
        · exact ⟨_, c4, by omega, by omega⟩
        · exact ⟨_, c5, by omega, by omega⟩
      clear c0 c1 c2 c3 c4 c5 c6
      go_wp2
      go_round
      case rel => exact ⟨k + 1, by omega, by omega, by go_num⟩
      case measure => simp [intOf]; omega
    · have eg : (48 + S / 100 - 48) * 100 + (48 + S / 10 % 10 - 48) * 10 + (48 + S % 10 - 48) = S := by omega
      have HG : Hid ((48 + S / 100 - 48) * 100 + (48 + S / 10 % 10 - 48) * 10 + (48 + S % 10 - 48) = S) := eg
      clear eg
      go_wp2
      go_quiet (fail)
      go_wp2
      rw [HG.out]
      clear c0 c1 c2 c3 c4 c5 c6 HG
      go_loop [6, 7] (fun tw ti => ∃ (j : Nat) (W : Int), j ≤ E ∧ ti = .int .i64 j ∧ tw = .int .i64 W ∧ 0 ≤ W ∧ W ≤ 255 ∧ Hid (W = sumF f j % 256)) (fun _ ti => E - (intOf ti).toNat)
      case atStart => exact ⟨0, 0, Nat.zero_le _, rfl, rfl, by omega, by omega, rfl⟩
      case round =>
        obtain ⟨j, W, hj, rfl, rfl, hW0, hW1, HWs⟩ := hrel
        by_cases hje : j < E
        · obtain ⟨D, HD⟩ : ∃ D : Int, Hid (D = f j) := ⟨f j, Eq.refl (f j)⟩
          have hD0 : 0 ≤ D := by rw [HD.out]; exact HT.out.lo j (by omega)
          have hD1 : D ≤ 255 := by rw [HD.out]; exact HT.out.hi j (by omega)
          have hc : w.cell? ⟨g, o + j, none⟩ = some (.int .u8 D) := by rw [HD.out]; exact HT.out.cell j (by omega)
          have hj7 : j < E + 7 := by omega
          have hj7' : (j : Int) < (E : Int) + 7 := by omega
          go_wp2
          go_round
          case rel =>
            refine ⟨j + 1, _, by omega, by go_num, rfl, by omega, by omega, ?_⟩
            show _ = (sumF f j + f j) % 256
            rw [HWs.out, HD.out]; omega
          case measure => simp [intOf]; omega
        · have hWS : W = S := by
            rw [HWs.out, HSu.out, show j = E by omega]
          have hbe : (S == W) = true := by rw [hWS]; simp
          clear hWS
          go_wp2
          go_ret
          exact ⟨rfl, _, rfl⟩

end Go.Proofs.Qxb6629298aDoor
