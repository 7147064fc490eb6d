/- The arithmetic of the checksum's four lanes. No Go in sight. -/
import Derived.Laws.Bits64b
import Derived.Lib.Endian
namespace Go.Proofs.Qxb6629298aDoor

theorem land_split (k a b m n : Nat) (ha : a < 2 ^ k) (hm : m < 2 ^ k) : (2 ^ k * b + a) &&& (2 ^ k * n + m) = 2 ^ k * (b &&& n) + (a &&& m) := by
  have hl : a &&& m < 2 ^ k := Nat.lt_of_le_of_lt Nat.and_le_left ha
  apply Nat.eq_of_testBit_eq
  intro j
  rw [Nat.testBit_and, Nat.testBit_two_pow_mul_add _ ha, Nat.testBit_two_pow_mul_add _ hm, Nat.testBit_two_pow_mul_add _ hl]
  split
  · rw [Nat.testBit_and]
  · rw [Nat.testBit_and]
theorem and255 (x : Nat) : x &&& 255 = x % 256 := by
  have := Nat.and_two_pow_sub_one_eq_mod x 8
  simpa using this

/-- the mask picks every second byte -/
theorem mask (c0 c1 c2 c3 : Nat) (h0 : c0 < 65536) (h1 : c1 < 65536) (h2 : c2 < 65536) :
    (65536 * (65536 * (65536 * c3 + c2) + c1) + c0) &&& 71777214294589695 = 65536 * (65536 * (65536 * (c3 % 256) + c2 % 256) + c1 % 256) + c0 % 256 := by
  have e : (71777214294589695 : Nat) = 2 ^ 16 * (2 ^ 16 * (2 ^ 16 * 255 + 255) + 255) + 255 := by decide
  have p : (65536 : Nat) = 2 ^ 16 := by decide
  rw [e, p, land_split 16 c0 _ 255 _ (by omega) (by decide), land_split 16 c1 _ 255 _ (by omega) (by decide), land_split 16 c2 _ 255 _ (by omega) (by decide)]
  rw [and255, and255, and255, and255]

/-- four lanes of 16 bits that sum to T, after j words -/
def Lanes (X : Int) (T j : Nat) : Prop :=
  ∃ a0 a1 a2 a3 : Nat, X = ((65536 * (65536 * (65536 * a3 + a2) + a1) + a0 : Nat) : Int) ∧ a0 ≤ 510 * j ∧ a1 ≤ 510 * j ∧ a2 ≤ 510 * j ∧ a3 ≤ 510 * j ∧ a0 + a1 + a2 + a3 = T

theorem Lanes.start : Lanes 0 0 0 := ⟨0, 0, 0, 0, rfl, by omega, by omega, by omega, by omega, rfl⟩
theorem Lanes.bound {X : Int} {T j : Nat} (h : Lanes X T j) (hj : j ≤ 128) : 0 ≤ X ∧ X ≤ 18446744073709551615 := by
  obtain ⟨a0, a1, a2, a3, e, h0, h1, h2, h3, _⟩ := h
  omega
/-- one word more: the even bytes and the odd bytes -/
def evens (b0 b2 b4 b6 : UInt8) : Int := ((65536 * (65536 * (65536 * b6.toNat + b4.toNat) + b2.toNat) + b0.toNat : Nat) : Int)

theorem Lanes.word {X : Int} {T j : Nat} (h : Lanes X T j) (b0 b1 b2 b3 b4 b5 b6 b7 : UInt8) :
    Lanes (X + (evens b0 b2 b4 b6 + evens b1 b3 b5 b7)) (T + (b0.toNat + b1.toNat + b2.toNat + b3.toNat + b4.toNat + b5.toNat + b6.toNat + b7.toNat)) (j + 1) := by
  obtain ⟨a0, a1, a2, a3, e, h0, h1, h2, h3, ht⟩ := h
  have l0 := b0.toNat_lt; have l1 := b1.toNat_lt; have l2 := b2.toNat_lt; have l3 := b3.toNat_lt
  have l4 := b4.toNat_lt; have l5 := b5.toNat_lt; have l6 := b6.toNat_lt; have l7 := b7.toNat_lt
  refine ⟨a0 + b0.toNat + b1.toNat, a1 + b2.toNat + b3.toNat, a2 + b4.toNat + b5.toNat, a3 + b6.toNat + b7.toNat, ?_, by omega, by omega, by omega, by omega, by omega⟩
  unfold evens
  omega
theorem evens_bound (b0 b2 b4 b6 : UInt8) : 0 ≤ evens b0 b2 b4 b6 ∧ evens b0 b2 b4 b6 ≤ 71777214294589695 := by
  have l0 := b0.toNat_lt; have l2 := b2.toNat_lt; have l4 := b4.toNat_lt; have l6 := b6.toNat_lt
  unfold evens
  omega

theorem word_even (b0 b1 b2 b3 b4 b5 b6 b7 : UInt8) :
    bits .and .u64 ((Lib.leNat [b0, b1, b2, b3, b4, b5, b6, b7] : Nat) : Int) 71777214294589695 = evens b0 b2 b4 b6 := by
  have l0 := b0.toNat_lt; have l1 := b1.toNat_lt; have l2 := b2.toNat_lt; have l3 := b3.toNat_lt
  have l4 := b4.toNat_lt; have l5 := b5.toNat_lt; have l6 := b6.toNat_lt; have l7 := b7.toNat_lt
  have e : Lib.leNat [b0, b1, b2, b3, b4, b5, b6, b7] = 65536 * (65536 * (65536 * (b6.toNat + 256 * b7.toNat) + (b4.toNat + 256 * b5.toNat)) + (b2.toNat + 256 * b3.toNat)) + (b0.toNat + 256 * b1.toNat) := by
    simp only [Lib.leNat]; omega
  rw [e]
  have h := bits_and_u64_nat (65536 * (65536 * (65536 * (b6.toNat + 256 * b7.toNat) + (b4.toNat + 256 * b5.toNat)) + (b2.toNat + 256 * b3.toNat)) + (b0.toNat + 256 * b1.toNat)) 71777214294589695 (by omega) (by omega)
  rw [mask _ _ _ _ (by omega) (by omega) (by omega)] at h
  refine Eq.trans h ?_
  unfold evens
  omega
theorem word_odd (b0 b1 b2 b3 b4 b5 b6 b7 : UInt8) :
    bits .and .u64 (((Lib.leNat [b0, b1, b2, b3, b4, b5, b6, b7] : Nat) : Int) / 256) 71777214294589695 = evens b1 b3 b5 b7 := by
  have l0 := b0.toNat_lt; have l1 := b1.toNat_lt; have l2 := b2.toNat_lt; have l3 := b3.toNat_lt
  have l4 := b4.toNat_lt; have l5 := b5.toNat_lt; have l6 := b6.toNat_lt; have l7 := b7.toNat_lt
  have e : ((Lib.leNat [b0, b1, b2, b3, b4, b5, b6, b7] : Nat) : Int) / 256 = ((65536 * (65536 * (65536 * (b7.toNat) + (b5.toNat + 256 * b6.toNat)) + (b3.toNat + 256 * b4.toNat)) + (b1.toNat + 256 * b2.toNat) : Nat) : Int) := by
    simp only [Lib.leNat]; omega
  rw [e]
  have h := bits_and_u64_nat (65536 * (65536 * (65536 * (b7.toNat) + (b5.toNat + 256 * b6.toNat)) + (b3.toNat + 256 * b4.toNat)) + (b1.toNat + 256 * b2.toNat)) 71777214294589695 (by omega) (by omega)
  rw [mask _ _ _ _ (by omega) (by omega) (by omega)] at h
  refine Eq.trans h ?_
  unfold evens
  omega
theorem leNat_bound (b0 b1 b2 b3 b4 b5 b6 b7 : UInt8) : Lib.leNat [b0, b1, b2, b3, b4, b5, b6, b7] ≤ 18446744073709551615 := by
  have l0 := b0.toNat_lt; have l1 := b1.toNat_lt; have l2 := b2.toNat_lt; have l3 := b3.toNat_lt
  have l4 := b4.toNat_lt; have l5 := b5.toNat_lt; have l6 := b6.toNat_lt; have l7 := b7.toNat_lt
  have e : Lib.leNat [b0, b1, b2, b3, b4, b5, b6, b7] = 65536 * (65536 * (65536 * (b6.toNat + 256 * b7.toNat) + (b4.toNat + 256 * b5.toNat)) + (b2.toNat + 256 * b3.toNat)) + (b0.toNat + 256 * b1.toNat) := by
    simp only [Lib.leNat]; omega
  generalize Lib.leNat [b0, b1, b2, b3, b4, b5, b6, b7] = N at e
  omega
theorem Lanes.fold {X : Int} {T j : Nat} (h : Lanes X T j) (hj : j ≤ 128) : (X + X / 65536 + X / 4294967296 + X / 281474976710656) % 256 = (T : Int) % 256 := by
  obtain ⟨a0, a1, a2, a3, e, h0, h1, h2, h3, ht⟩ := h
  have q1 : X / 65536 = ((65536 * (65536 * a3 + a2) + a1 : Nat) : Int) := by omega
  have q2 : X / 4294967296 = ((65536 * a3 + a2 : Nat) : Int) := by
    rw [show (4294967296 : Int) = 65536 * 65536 by decide, ← Int.ediv_ediv_of_nonneg (by decide), q1]; omega
  have q3 : X / 281474976710656 = (a3 : Int) := by
    rw [show (281474976710656 : Int) = 4294967296 * 65536 by decide, ← Int.ediv_ediv_of_nonneg (by decide), q2]; omega
  rw [q1, q2, q3, e]
  omega

end Go.Proofs.Qxb6629298aDoor
