/- The plain law of the automaton: sign, digits, bound. No Go in sight. -/
import Derived.Test.Qxb6629182aDoorNum
namespace Go.Proofs.Qxb6629182aDoor
open Go.Lib

/-- l is a sign (or none) and the rest r -/
def Sg (neg : Bool) (l r : List UInt8) : Prop := (neg = true → l = 45 :: r) ∧ (neg = false → l = r ∧ ∀ c t, l = c :: t → c.toNat ≠ 45)
def lim (neg : Bool) : Nat := if neg then 9223372036854775808 else 9223372036854775807

theorem sg_itoa {neg : Bool} {l r : List UInt8} {v : Int} (h : Sg neg l r) (e : l = itoa v) : r = decDigits v.natAbs ∧ (neg = true → v < 0) ∧ (neg = false → 0 ≤ v) := by
  have d45 : (45 : UInt8).toNat = 45 := rfl
  cases neg
  · obtain ⟨h1, h2⟩ := h.2 rfl
    subst h1
    unfold itoa at e
    split at e
    · exact absurd d45 (h2 _ _ e)
    · rename_i hv
      refine ⟨by rw [e]; congr 1; omega, (fun h => by cases h), fun _ => by omega⟩
  · have h1 := h.1 rfl
    rw [h1] at e
    unfold itoa at e
    split at e
    · rename_i hv
      exact ⟨by simpa using e, fun _ => hv, fun h => by cases h⟩
    · have := decDigits_digs v.toNat 45 (by rw [← e]; simp)
      obtain ⟨g1, _⟩ := this
      omega
theorem lim_natAbs {neg : Bool} {v : Int} (h : I64 v) (h1 : neg = true → v < 0) (h2 : neg = false → 0 ≤ v) : v.natAbs ≤ lim neg := by
  obtain ⟨g1, g2⟩ := h
  cases neg
  · have := h2 rfl; show v.natAbs ≤ 9223372036854775807; omega
  · show v.natAbs ≤ 9223372036854775808; omega

theorem pi_no {l : List UInt8} (m : Int) (h : ∀ v, I64 v → l ≠ itoa v) : PI l m false := ⟨(fun h => by cases h), fun _ => h⟩
theorem pi_yes {l : List UInt8} {m : Int} (h : I64 m) (e : l = itoa m) : PI l m true := ⟨(fun _ => ⟨h, e⟩), fun h => by cases h⟩

theorem no_nondig {neg : Bool} {l r : List UInt8} {c : UInt8} (m : Int) (h : Sg neg l r) (hc : c ∈ r) (hd : ¬ Dig c) : PI l m false :=
  pi_no m fun v _ e => hd (decDigits_digs v.natAbs c (by rw [← (sg_itoa h e).1]; exact hc))
theorem no_over {neg : Bool} {l r : List UInt8} {k : Nat} (m : Int) (h : Sg neg l r) (hv : lim neg < val (r.take k)) : PI l m false :=
  pi_no m fun v hI e => by
    obtain ⟨e1, e2, e3⟩ := sg_itoa h e
    have h1 := lim_natAbs hI e2 e3
    have h2 := val_prefix r k
    rw [e1, val_decDigits] at h2
    rw [e1] at hv
    omega
theorem head_ne (u : Nat) (hu : 1 ≤ u) : ∀ c t, decDigits u = c :: t → c.toNat ≠ 48 := by
  induction u using Nat.strongRecOn with
  | _ u ih =>
    intro c t e
    by_cases h : u < 10
    · rw [decDigits_small h] at e
      have : UInt8.ofNat (48 + u) = c := by simpa using (List.cons.inj e).1
      rw [← this, toNat_dig u h]; omega
    · rw [decDigits_big h] at e
      cases hx : decDigits (u / 10) with
      | nil => exact absurd hx (decDigits_ne _)
      | cons c' t' =>
        rw [hx] at e
        have : c' = c := by simpa using (List.cons.inj e).1
        rw [← this]
        exact ih (u / 10) (by omega) (by omega) c' t' hx
theorem no_zero {neg : Bool} {l r t : List UInt8} {c : UInt8} (m : Int) (h : Sg neg l r) (hr : r = c :: t) (hc : c.toNat = 48) (ht : neg = true ∨ t ≠ []) : PI l m false :=
  pi_no m fun v hI e => by
    obtain ⟨e1, e2, e3⟩ := sg_itoa h e
    by_cases hu : 1 ≤ v.natAbs
    · exact head_ne _ hu c t (by rw [← e1, hr]) hc
    · have h0 : v.natAbs = 0 := by omega
      rcases ht with ht | ht
      · have := e2 ht; omega
      · rw [h0, decDigits_small (by omega), hr] at e1
        exact ht (by simpa using (List.cons.inj e1).2)
theorem no_empty {neg : Bool} {l r : List UInt8} (m : Int) (h : Sg neg l r) (hr : r = []) : PI l m false :=
  pi_no m fun _ _ e => decDigits_ne _ ((sg_itoa h e).1.symm.trans hr)
theorem yes_zero {c : UInt8} (hc : c.toNat = 48) : PI [c] 0 true := by
  refine pi_yes (by unfold I64; omega) ?_
  have : c = UInt8.ofNat (48 + 0) := UInt8.toNat_inj.1 (by rw [toNat_dig 0 (by omega)]; omega)
  unfold itoa
  rw [if_neg (by omega), show (0 : Int).toNat = 0 from rfl, decDigits_small (by omega), this]
theorem yes_pos {l r : List UInt8} (h : Sg false l r) (hd : Digs r) (hn : r ≠ []) (h0 : ∀ c t, r = c :: t → c.toNat ≠ 48) (hv : val r ≤ lim false) : PI l (val r : Int) true := by
  obtain ⟨e1, e2⟩ := decDigits_val r hd hn h0
  have hv' : val r ≤ 9223372036854775807 := hv
  refine pi_yes (by unfold I64; omega) ?_
  unfold itoa
  rw [if_neg (by omega), (h.2 rfl).1, Int.toNat_natCast, e1]
theorem yes_neg {l r : List UInt8} (h : Sg true l r) (hd : Digs r) (hn : r ≠ []) (h0 : ∀ c t, r = c :: t → c.toNat ≠ 48) (hv : val r ≤ lim true) : PI l (-(val r : Int)) true := by
  obtain ⟨e1, e2⟩ := decDigits_val r hd hn h0
  have hv' : val r ≤ 9223372036854775808 := hv
  refine pi_yes (by unfold I64; omega) ?_
  unfold itoa
  rw [if_pos (by omega), h.1 rfl, show (-(val r : Int)).natAbs = val r by omega, e1]
theorem take_snoc (r : List UInt8) (j : Nat) (h : j < r.length) : r.take (j + 1) = r.take j ++ [r[j]] := List.take_succ_eq_append_getElem h

end Go.Proofs.Qxb6629182aDoor
