/- The plain law: which byte texts are the decimal numeral of an int64, and how a numeral grows by a digit. No Go in sight. -/
import Derived.Lib.ItoaMem
import Derived.Lib.ParseIntBTie
import Derived.Lib.AtoiAllCases
namespace Go.Proofs.Qxb6629182aDoor
open Go.Lib

def I64 (v : Int) : Prop := -9223372036854775808 ≤ v ∧ v ≤ 9223372036854775807
def Dig (c : UInt8) : Prop := 48 ≤ c.toNat ∧ c.toNat ≤ 57
def Digs (l : List UInt8) : Prop := ∀ c ∈ l, Dig c
def valFrom (a : Nat) : List UInt8 → Nat
  | [] => a
  | c :: r => valFrom (a * 10 + (c.toNat - 48)) r
def val (l : List UInt8) : Nat := valFrom 0 l

theorem toNat_dig (u : Nat) (h : u < 10) : (UInt8.ofNat (48 + u)).toNat = 48 + u := by
  rw [UInt8.toNat_ofNat']; omega
theorem dig_ofNat (u : Nat) (h : u < 10) : Dig (UInt8.ofNat (48 + u)) := by
  unfold Dig; rw [toNat_dig u h]; omega
theorem ofNat_dig {c : UInt8} (h : Dig c) : UInt8.ofNat (48 + (c.toNat - 48)) = c := by
  apply UInt8.toNat_inj.1
  obtain ⟨h1, h2⟩ := h
  rw [toNat_dig _ (by omega)]; omega

theorem valFrom_append (a : Nat) (l r : List UInt8) : valFrom a (l ++ r) = valFrom (valFrom a l) r := by
  induction l generalizing a with
  | nil => rfl
  | cons c l ih => exact ih _
theorem val_snoc (l : List UInt8) (c : UInt8) : val (l ++ [c]) = val l * 10 + (c.toNat - 48) := by
  unfold val; rw [valFrom_append]; rfl
theorem valFrom_ge (a : Nat) (l : List UInt8) : a ≤ valFrom a l := by
  induction l generalizing a with
  | nil => exact Nat.le_refl _
  | cons c l ih => exact Nat.le_trans (by omega) (ih _)
theorem val_prefix (l : List UInt8) (k : Nat) : val (l.take k) ≤ val l := by
  have := valFrom_ge (val (l.take k)) (l.drop k)
  unfold val at this ⊢
  rwa [← valFrom_append, List.take_append_drop] at this

theorem decDigits_small {u : Nat} (h : u < 10) : decDigits u = [UInt8.ofNat (48 + u)] := decDigits_one h
theorem decDigits_big {u : Nat} (h : ¬ u < 10) : decDigits u = decDigits (u / 10) ++ [UInt8.ofNat (48 + u % 10)] := by
  rw [decDigits, dif_neg h]
theorem decDigits_step (u d : Nat) (hu : 1 ≤ u) (hd : d < 10) : decDigits (u * 10 + d) = decDigits u ++ [UInt8.ofNat (48 + d)] := by
  rw [decDigits_big (by omega), show (u * 10 + d) / 10 = u by omega, show (u * 10 + d) % 10 = d by omega]

theorem decDigits_digs (u : Nat) : Digs (decDigits u) := by
  induction u using Nat.strongRecOn with
  | _ u ih =>
    by_cases h : u < 10
    · rw [decDigits_small h]; intro c hc; rw [List.mem_singleton.1 hc]; exact dig_ofNat u h
    · rw [decDigits_big h]; intro c hc
      rcases List.mem_append.1 hc with hc | hc
      · exact ih _ (by omega) c hc
      · rw [List.mem_singleton.1 hc]; exact dig_ofNat _ (by omega)
theorem val_decDigits (u : Nat) : val (decDigits u) = u := by
  induction u using Nat.strongRecOn with
  | _ u ih =>
    by_cases h : u < 10
    · rw [decDigits_small h]
      show 0 * 10 + ((UInt8.ofNat (48 + u)).toNat - 48) = u
      rw [toNat_dig u h]; omega
    · rw [decDigits_big h, val_snoc, ih _ (by omega), toNat_dig _ (by omega)]; omega
theorem decDigits_ne (u : Nat) : decDigits u ≠ [] := by
  intro e
  have := decDigits_length u
  rw [e] at this
  have := nDigits_pos u
  simp at *; omega
theorem decDigits_val (l : List UInt8) (hd : Digs l) (hn : l ≠ []) (h0 : ∀ c r, l = c :: r → c.toNat ≠ 48) : decDigits (val l) = l ∧ 1 ≤ val l := by
  generalize hk : l.length = k
  induction k generalizing l with
  | zero => exact absurd (List.length_eq_zero_iff.1 hk) hn
  | succ k ih =>
    rcases List.eq_nil_or_concat l with rfl | ⟨m, c, rfl⟩
    · exact absurd rfl hn
    · rw [List.concat_eq_append] at *
      have hc : Dig c := hd c (by simp)
      have hc' := hc
      obtain ⟨h1, h2⟩ := hc'
      rw [val_snoc]
      by_cases hm : m = []
      · subst hm
        have := h0 c [] rfl
        have hv : val [] = 0 := rfl
        rw [hv, decDigits_small (by omega)]
        refine ⟨?_, by omega⟩
        rw [show 0 * 10 + (c.toNat - 48) = c.toNat - 48 by omega, ofNat_dig hc]; rfl
      · have hl : m.length = k := by simpa using hk
        obtain ⟨e1, e2⟩ := ih m (fun x hx => hd x (by simp [hx])) hm (fun x r e => h0 x (r ++ [c]) (by rw [e]; rfl)) hl
        rw [decDigits_step _ _ e2 (by omega), e1, ofNat_dig hc]
        exact ⟨rfl, by omega⟩

theorem nDigits_le (k : Nat) : ∀ u : Nat, u < 10 ^ (k + 1) → nDigits u ≤ k + 1 := by
  induction k with
  | zero => intro u h; rw [nDigits_small (by simpa using h)]; omega
  | succ k ih =>
    intro u h
    by_cases hu : u < 10
    · rw [nDigits_small hu]; omega
    · rw [nDigits_big hu]
      have := ih (u / 10) (by rw [Nat.pow_succ] at h; omega)
      omega

theorem itoa_len {v : Int} (h : I64 v) : 1 ≤ (itoa v).length ∧ (itoa v).length ≤ 20 := by
  obtain ⟨h1, h2⟩ := h
  unfold itoa
  split
  · have := nDigits_le 18 v.natAbs (by omega)
    rw [List.length_cons, decDigits_length]; omega
  · have := nDigits_le 18 v.toNat (by omega)
    have := nDigits_pos v.toNat
    rw [decDigits_length]; omega

theorem parse_digs (l : List UInt8) (a : Nat) (hd : Digs l) (hv : valFrom a l < 18446744073709551616) : parseUint10 a l = .ok (valFrom a l) := by
  induction l generalizing a with
  | nil => rfl
  | cons c r ih =>
    obtain ⟨h1, h2⟩ := hd c (by simp)
    have hg := valFrom_ge (a * 10 + (c.toNat - 48)) r
    have hv' : valFrom (a * 10 + (c.toNat - 48)) r < 18446744073709551616 := hv
    unfold parseUint10
    rw [if_pos ⟨h1, h2⟩, if_neg (by omega), if_neg (by omega)]
    exact ih _ (fun x hx => hd x (by simp [hx])) hv'
theorem parseMag_dec (u : Nat) (h : u < 18446744073709551616) : parseMag (decDigits u) = .ok u := by
  have := parse_digs (decDigits u) 0 (decDigits_digs u) (by rw [show valFrom 0 (decDigits u) = u from val_decDigits u]; exact h)
  unfold parseMag
  rw [if_neg (decDigits_ne u), this, show valFrom 0 (decDigits u) = u from val_decDigits u]

theorem parse_itoa {v : Int} (h : I64 v) : parseIntB 64 (itoa v) = .ok v := by
  obtain ⟨h1, h2⟩ := h
  rw [parseIntB_64]
  unfold itoa
  split
  · rw [atoiAll_minus, parseMag_dec _ (by omega)]
    show (if 9223372036854775808 < v.natAbs then NumEnd.range else .ok (-(v.natAbs : Int))) = .ok v
    rw [if_neg (by omega)]
    congr 1; omega
  · cases hc : decDigits v.toNat with
    | nil => exact absurd hc (decDigits_ne _)
    | cons c r =>
      have hdg := decDigits_digs v.toNat c (by rw [hc]; simp)
      obtain ⟨g1, g2⟩ := hdg
      rw [atoiAll_plain c r (by omega) (by omega), ← hc, parseMag_dec _ (by omega)]
      show (if 9223372036854775808 ≤ v.toNat then NumEnd.range else .ok (v.toNat : Int)) = .ok v
      rw [if_neg (by omega)]
      congr 1; omega

theorem itoa_inj {u v : Int} (hu : I64 u) (hv : I64 v) (h : itoa u = itoa v) : u = v := by
  have h1 := parse_itoa hu
  rw [h, parse_itoa hv] at h1
  injection h1 with h1
  exact h1.symm

/-- what ParseInt answers for the bytes l -/
def PI (l : List UInt8) (n : Int) (ok : Bool) : Prop :=
  (ok = true → I64 n ∧ l = itoa n) ∧ (ok = false → ∀ v, I64 v → l ≠ itoa v)

theorem PI.yes {l : List UInt8} {n : Int} (h : PI l n true) : I64 n ∧ l = itoa n := h.1 rfl
theorem PI.no {l : List UInt8} {n : Int} (h : PI l n false) : ∀ v, I64 v → l ≠ itoa v := h.2 rfl
theorem PI.agree {l : List UInt8} {n m : Int} {a b : Bool} (h : PI l n a) (g : PI l m b) : a = b ∧ (a = true → n = m) := by
  cases a <;> cases b
  · exact ⟨rfl, fun h => by cases h⟩
  · exact absurd g.yes.2 (h.no m g.yes.1)
  · exact absurd h.yes.2 (g.no n h.yes.1)
  · exact ⟨rfl, fun _ => itoa_inj h.yes.1 g.yes.1 (h.yes.2.symm.trans g.yes.2)⟩
theorem PI.given {l : List UInt8} {n v : Int} {ok : Bool} (h : PI l n ok) (hv : I64 v) (e : l = itoa v) : ok = true ∧ n = v := by
  cases ok
  · exact absurd e (h.no v hv)
  · exact ⟨rfl, itoa_inj h.yes.1 hv (h.yes.2.symm.trans e)⟩

/-- a numeral longer by a digit -/
theorem itoa_pos (n : Int) (d : Nat) (hn : 0 < n) (hd : d < 10) : itoa (n * 10 + d) = itoa n ++ [UInt8.ofNat (48 + d)] := by
  unfold itoa
  rw [if_neg (by omega), if_neg (by omega), show (n * 10 + (d : Int)).toNat = n.toNat * 10 + d by omega]
  exact decDigits_step _ _ (by omega) hd
theorem itoa_negd (n : Int) (d : Nat) (hn : n < 0) (hd : d < 10) : itoa (n * 10 - d) = itoa n ++ [UInt8.ofNat (48 + d)] := by
  unfold itoa
  rw [if_pos (by omega), if_pos (by omega), show (n * 10 - (d : Int)).natAbs = n.natAbs * 10 + d by omega, decDigits_step _ _ (by omega) hd]
  rfl
theorem snoc_inj {l m : List UInt8} {c d : UInt8} (h : l ++ [c] = m ++ [d]) : l = m ∧ c = d := by
  have := List.append_inj' h rfl
  exact ⟨this.1, by simpa using this.2⟩
/-- what a numeral of two bytes or more, not of a sign and a digit, is made of -/
theorem itoa_snoc {l : List UInt8} {c : UInt8} {v : Int} (h : l ++ [c] = itoa v) (h0 : l ≠ []) (h1 : l ≠ [45]) :
    Dig c ∧ ∃ n : Int, l = itoa n ∧ ((0 < n ∧ v = n * 10 + ((c.toNat - 48 : Nat) : Int)) ∨ (n < 0 ∧ v = n * 10 - ((c.toNat - 48 : Nat) : Int))) := by
  unfold itoa at h
  split at h
  · by_cases hs : v.natAbs < 10
    · rw [decDigits_small hs] at h
      exact absurd (snoc_inj (m := [45]) h).1 h1
    · rw [decDigits_big hs] at h
      obtain ⟨e1, e2⟩ := snoc_inj (m := 45 :: decDigits (v.natAbs / 10)) h
      subst e2
      refine ⟨dig_ofNat _ (by omega), -((v.natAbs / 10 : Nat) : Int), ?_, .inr ⟨by omega, ?_⟩⟩
      · rw [e1]; unfold itoa; rw [if_pos (by omega)]; congr 2; omega
      · rw [toNat_dig _ (by omega)]; omega
  · by_cases hs : v.toNat < 10
    · rw [decDigits_small hs] at h
      exact absurd (snoc_inj (m := []) h).1 h0
    · rw [decDigits_big hs] at h
      obtain ⟨e1, e2⟩ := snoc_inj h
      subst e2
      refine ⟨dig_ofNat _ (by omega), ((v.toNat / 10 : Nat) : Int), ?_, .inl ⟨by omega, ?_⟩⟩
      · rw [e1]; unfold itoa; rw [if_neg (by omega)]; congr 1
      · rw [toNat_dig _ (by omega)]; omega
theorem itoa_last {l : List UInt8} {c : UInt8} {v : Int} (h : l ++ [c] = itoa v) : Dig c := by
  have hm : c ∈ itoa v := by rw [← h]; simp
  unfold itoa at h hm
  split at h
  · rename_i hv
    rw [if_pos hv] at hm
    rcases List.mem_cons.1 hm with rfl | hm
    · cases l with
      | nil =>
        have := congrArg List.length h
        rw [List.length_cons, decDigits_length] at this
        have := nDigits_pos v.natAbs
        simp at *; omega
      | cons x l =>
        have h' : x = 45 ∧ l ++ [45] = decDigits v.natAbs := by simpa using h
        exact decDigits_digs v.natAbs _ (by rw [← h'.2]; simp)
    · exact decDigits_digs _ _ hm
  · rename_i hv
    rw [if_neg hv] at hm
    exact decDigits_digs _ _ hm

/-! ### the law of the digit that is put behind -/
theorem app_nodig {l : List UInt8} {c : UInt8} {r : Int} {ok : Bool} (h : PI (l ++ [c]) r ok) (hc : ¬ Dig c) : ok = false := by
  cases ok
  · rfl
  · exact absurd (itoa_last h.yes.2) hc
theorem app_empty {c : UInt8} {r : Int} {ok : Bool} (h : PI [c] r ok) (hc : Dig c) : ok = true ∧ r = ((c.toNat - 48 : Nat) : Int) := by
  have hc' := hc
  obtain ⟨h1, h2⟩ := hc'
  refine h.given (by unfold I64; omega) ?_
  unfold itoa
  rw [if_neg (by omega), decDigits_small (by omega), show ((c.toNat - 48 : Nat) : Int).toNat = c.toNat - 48 by omega, ofNat_dig hc]
theorem app_minus_zero {c : UInt8} {r : Int} {ok : Bool} (h : PI [45, c] r ok) (hc : c.toNat = 48) : ok = false := by
  cases ok
  · rfl
  · have e := h.yes.2
    unfold itoa at e
    split at e
    · have e2 : [c] = decDigits r.natAbs := by simpa using e
      have := val_decDigits r.natAbs
      rw [← e2] at this
      have h0 : val [c] = 0 := by show 0 * 10 + (c.toNat - 48) = 0; omega
      omega
    · have := decDigits_digs r.toNat 45 (by rw [← e]; simp)
      obtain ⟨g1, g2⟩ := this
      have : (45 : UInt8).toNat = 45 := rfl
      omega
theorem app_minus {c : UInt8} {r : Int} {ok : Bool} (h : PI [45, c] r ok) (hc : Dig c) (h0 : c.toNat ≠ 48) : ok = true ∧ r = -((c.toNat - 48 : Nat) : Int) := by
  have hc' := hc
  obtain ⟨h1, h2⟩ := hc'
  refine h.given (by unfold I64; omega) ?_
  unfold itoa
  rw [if_pos (by omega), decDigits_small (by omega), show (-((c.toNat - 48 : Nat) : Int)).natAbs = c.toNat - 48 by omega, ofNat_dig hc]
theorem app_refused {l : List UInt8} {c : UInt8} {r n : Int} {ok okb : Bool} (h : PI (l ++ [c]) r ok) (g : PI l n okb) (h0 : l ≠ []) (h1 : l ≠ [45]) (hb : okb = false ∨ n = 0) : ok = false := by
  cases ok
  · rfl
  · obtain ⟨⟨r1, r2⟩, e⟩ := h.yes
    obtain ⟨hc, m, em, hm⟩ := itoa_snoc e h0 h1
    obtain ⟨c1, c2⟩ := hc
    have hI : I64 m := by unfold I64; omega
    obtain ⟨k1, k2⟩ := g.given hI em
    rcases hb with hb | hb
    · rw [hb] at k1; cases k1
    · omega
theorem app_pos_no {l : List UInt8} {c : UInt8} {r n : Int} {ok : Bool} (h : PI (l ++ [c]) r ok) (g : PI l n true) (h0 : l ≠ []) (h1 : l ≠ [45]) (hn : 0 < n)
    (hbig : 922337203685477580 < n ∨ (n = 922337203685477580 ∧ 7 < ((c.toNat - 48 : Nat) : Int))) : ok = false := by
  cases ok
  · rfl
  · obtain ⟨⟨r1, r2⟩, e⟩ := h.yes
    obtain ⟨hc, m, em, hm⟩ := itoa_snoc e h0 h1
    obtain ⟨c1, c2⟩ := hc
    have hI : I64 m := by unfold I64; omega
    obtain ⟨k1, k2⟩ := g.given hI em
    omega
theorem app_pos {l : List UInt8} {c : UInt8} {r n : Int} {ok : Bool} (h : PI (l ++ [c]) r ok) (g : PI l n true) (hc : Dig c) (hn : 0 < n)
    (hbig : ¬ (922337203685477580 < n ∨ (n = 922337203685477580 ∧ 7 < ((c.toNat - 48 : Nat) : Int)))) : ok = true ∧ r = n * 10 + ((c.toNat - 48 : Nat) : Int) := by
  have hc' := hc
  obtain ⟨h1, h2⟩ := hc'
  refine h.given (by unfold I64; omega) ?_
  rw [itoa_pos n _ hn (by omega), ofNat_dig hc, ← g.yes.2]
theorem app_neg_no {l : List UInt8} {c : UInt8} {r n : Int} {ok : Bool} (h : PI (l ++ [c]) r ok) (g : PI l n true) (h0 : l ≠ []) (h1 : l ≠ [45]) (hn : n < 0)
    (hbig : n < -922337203685477580 ∨ (n = -922337203685477580 ∧ -((c.toNat - 48 : Nat) : Int) < -8)) : ok = false := by
  cases ok
  · rfl
  · obtain ⟨⟨r1, r2⟩, e⟩ := h.yes
    obtain ⟨hc, m, em, hm⟩ := itoa_snoc e h0 h1
    obtain ⟨c1, c2⟩ := hc
    have hI : I64 m := by unfold I64; omega
    obtain ⟨k1, k2⟩ := g.given hI em
    omega
theorem app_neg {l : List UInt8} {c : UInt8} {r n : Int} {ok : Bool} (h : PI (l ++ [c]) r ok) (g : PI l n true) (hc : Dig c) (hn : n < 0)
    (hbig : ¬ (n < -922337203685477580 ∨ (n = -922337203685477580 ∧ -((c.toNat - 48 : Nat) : Int) < -8))) : ok = true ∧ r = n * 10 - ((c.toNat - 48 : Nat) : Int) := by
  have hc' := hc
  obtain ⟨h1, h2⟩ := hc'
  refine h.given (by unfold I64; omega) ?_
  rw [itoa_negd n _ hn (by omega), ofNat_dig hc, ← g.yes.2]

end Go.Proofs.Qxb6629182aDoor
