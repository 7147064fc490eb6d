/- The message as a list of bytes. No Go in sight. -/
import Derived.Test.Qxb6629298aDoorDig
namespace Go.Proofs.Qxb6629298aDoor
open Go.Lib

/-- how many bytes the body takes, as the text counts them -/
def bodyN (tg : Nat → Int) (vl : Nat → ByteArray) : Nat → Nat
  | 0 => 0
  | k + 1 => bodyN tg vl k + (digs (tg k) + 1 + (vl k).size + 1)
/-- the values' lengths -/
def sizes (vl : Nat → ByteArray) : Nat → Nat
  | 0 => 0
  | k + 1 => sizes vl k + (24 + (vl k).size)
/-- one field -/
def fieldB (t : Int) (s : ByteArray) : List UInt8 := itoa t ++ (61 :: (s.data.toList ++ [1]))
/-- the body -/
def bodyB (tg : Nat → Int) (vl : Nat → ByteArray) : Nat → List UInt8
  | 0 => []
  | k + 1 => bodyB tg vl k ++ fieldB (tg k) (vl k)
/-- 8=FIX.4.4 SOH 9= -/
def headB : List UInt8 := [56, 61, 70, 73, 88, 46, 52, 46, 52, 1, 57, 61]
def pre (tg : Nat → Int) (vl : Nat → ByteArray) (n : Nat) : List UInt8 := headB ++ (itoa (bodyN tg vl n : Int) ++ (1 :: bodyB tg vl n))
def sumL : List UInt8 → Nat
  | [] => 0
  | c :: r => c.toNat + sumL r
def trail (s : Nat) : List UInt8 := [49, 48, 61, UInt8.ofNat (48 + s / 100), UInt8.ofNat (48 + s / 10 % 10), UInt8.ofNat (48 + s % 10), 1]
def msg (tg : Nat → Int) (vl : Nat → ByteArray) (n : Nat) : List UInt8 := pre tg vl n ++ trail (sumL (pre tg vl n) % 256)

theorem itoa_len (v : Int) (h0 : -9223372036854775808 ≤ v) (h1 : v ≤ 9223372036854775807) : 1 ≤ (itoa v).length ∧ (itoa v).length ≤ 20 := by
  unfold itoa
  split
  · have := nDigits_pow 18 v.natAbs (by omega)
    rw [List.length_cons, decDigits_length]; omega
  · have := nDigits_pow 18 v.toNat (by omega)
    have := nDigits_pos v.toNat
    rw [decDigits_length]; omega
theorem size_eq (s : ByteArray) : s.data.toList.length = s.size := by rw [Array.length_toList]; rfl
theorem fieldB_len (t : Int) (s : ByteArray) : (fieldB t s).length = (itoa t).length + 1 + s.size + 1 := by
  unfold fieldB; simp only [List.length_append, List.length_cons, List.length_nil, size_eq]; omega
theorem bodyB_len (tg : Nat → Int) (vl : Nat → ByteArray) (n k : Nat) (hk : k ≤ n) (ht : ∀ i, i < n → -9223372036854775808 ≤ tg i ∧ tg i ≤ 9223372036854775807) : (bodyB tg vl k).length ≤ sizes vl k := by
  induction k with
  | zero => exact Nat.le_refl _
  | succ k ih =>
    have h1 := ih (by omega)
    have h2 := itoa_len (tg k) (ht k (by omega)).1 (ht k (by omega)).2
    show (bodyB tg vl k ++ fieldB (tg k) (vl k)).length ≤ sizes vl k + (24 + (vl k).size)
    rw [List.length_append, fieldB_len]; omega
theorem bodyN_le (tg : Nat → Int) (vl : Nat → ByteArray) (n k : Nat) (hk : k ≤ n) (ht : ∀ i, i < n → -9223372036854775808 ≤ tg i ∧ tg i ≤ 9223372036854775807) : bodyN tg vl k ≤ sizes vl k := by
  induction k with
  | zero => exact Nat.le_refl _
  | succ k ih =>
    have h1 := ih (by omega)
    have h2 := digs_le (tg k) (ht k (by omega)).2
    show bodyN tg vl k + _ ≤ sizes vl k + _
    omega
theorem sizes_mono (vl : Nat → ByteArray) (a b : Nat) (h : a ≤ b) : sizes vl a ≤ sizes vl b := by
  induction b with
  | zero => rw [show a = 0 by omega]; exact Nat.le_refl _
  | succ b ih =>
    by_cases e : a = b + 1
    · rw [e]; exact Nat.le_refl _
    · have := ih (by omega); show sizes vl a ≤ sizes vl b + _; omega
theorem pre_len (tg : Nat → Int) (vl : Nat → ByteArray) (n : Nat) (ht : ∀ i, i < n → -9223372036854775808 ≤ tg i ∧ tg i ≤ 9223372036854775807) (hb : sizes vl n ≤ 100000000) :
    14 ≤ (pre tg vl n).length ∧ (pre tg vl n).length ≤ 33 + sizes vl n := by
  have h1 := bodyB_len tg vl n n (Nat.le_refl _) ht
  have h2 := bodyN_le tg vl n n (Nat.le_refl _) ht
  have h3 := itoa_len (bodyN tg vl n : Int) (by omega) (by omega)
  unfold pre headB
  simp only [List.length_append, List.length_cons, List.length_nil]
  omega
theorem msg_len (tg : Nat → Int) (vl : Nat → ByteArray) (n : Nat) : (msg tg vl n).length = (pre tg vl n).length + 7 := by
  unfold msg trail; simp

end Go.Proofs.Qxb6629298aDoor
