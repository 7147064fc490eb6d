/- Where each byte of the message stands. No Go in sight. -/
import Derived.Test.Qxb6629298aDoorItoa
namespace Go.Proofs.Qxb6629298aDoor
open Go.Lib (decDigits)

def valFrom (a : Nat) : List UInt8 → Nat
  | [] => a
  | c :: r => valFrom (a * 10 + (c.toNat - 48)) r
def val (l : List UInt8) : Nat := valFrom 0 l
theorem valFrom_append (a : Nat) (l r : List UInt8) : valFrom a (l ++ r) = valFrom (valFrom a l) r := by
  induction l generalizing a with
  | nil => rfl
  | cons c l ih => exact ih _
theorem val_snoc (l : List UInt8) (c : UInt8) : val (l ++ [c]) = val l * 10 + (c.toNat - 48) := by
  unfold val; rw [valFrom_append]; rfl
theorem valFrom_ge (a : Nat) (l : List UInt8) : a ≤ valFrom a l := by
  induction l generalizing a with
  | nil => exact Nat.le_refl _
  | cons c l ih => exact Nat.le_trans (by omega) (ih _)
theorem val_prefix (l : List UInt8) (k : Nat) : val (l.take k) ≤ val l := by
  have := valFrom_ge (val (l.take k)) (l.drop k)
  unfold val at this ⊢
  rwa [← valFrom_append, List.take_append_drop] at this
theorem toNat_dig (u : Nat) (h : u < 10) : (UInt8.ofNat (48 + u)).toNat = 48 + u := by
  rw [UInt8.toNat_ofNat']; omega
theorem val_decDigits (u : Nat) : val (decDigits u) = u := by
  induction u using Nat.strongRecOn with
  | _ u ih =>
    by_cases h : u < 10
    · rw [decDigits_small h]
      show 0 * 10 + ((UInt8.ofNat (48 + u)).toNat - 48) = u
      rw [toNat_dig u h]; omega
    · rw [decDigits_big h, val_snoc, ih _ (by omega), toNat_dig _ (by omega)]; omega
theorem decDigits_dig (u : Nat) : ∀ c ∈ decDigits u, 48 ≤ c.toNat ∧ c.toNat ≤ 57 := by
  induction u using Nat.strongRecOn with
  | _ u ih =>
    by_cases h : u < 10
    · rw [decDigits_small h]; intro c hc; rw [List.mem_singleton.1 hc, toNat_dig u h]; omega
    · rw [decDigits_big h]; intro c hc
      rcases List.mem_append.1 hc with hc | hc
      · exact ih _ (by omega) c hc
      · rw [List.mem_singleton.1 hc, toNat_dig _ (by omega)]; omega
theorem decDigits_pos (u : Nat) : 1 ≤ (decDigits u).length := by
  have := Lib.decDigits_length u; have := Lib.nDigits_pos u; omega
theorem decDigits_head (u : Nat) (h0 : 0 < u) : ((decDigits u).getD 0 0).toNat ≠ 48 := by
  induction u using Nat.strongRecOn with
  | _ u ih =>
    by_cases h : u < 10
    · rw [decDigits_small h]; show (UInt8.ofNat (48 + u)).toNat ≠ 48; rw [toNat_dig u h]; omega
    · rw [decDigits_big h, getD_left _ _ 0 (by have := decDigits_pos (u / 10); omega)]
      exact ih _ (by omega) (by omega)

/-- the numeral as the law's loop reads it -/
structure Num (D : List UInt8) (d N : Nat) : Prop where
  len : D.length = d
  pos : 1 ≤ d
  dig : ∀ j, j < d → 48 ≤ (D.getD j 0).toNat ∧ (D.getD j 0).toNat ≤ 57
  all : val D = N
  one : (D.getD 0 0).toNat = 48 → d = 1
theorem num_itoa (N : Nat) : Num (Lib.itoa (N : Int)) (Lib.itoa (N : Int)).length N := by
  have e : Lib.itoa (N : Int) = decDigits N := by rw [itoa_nat _ (by omega), Int.toNat_natCast]
  rw [e]
  refine ⟨rfl, decDigits_pos N, fun j hj => ?_, val_decDigits N, fun h => ?_⟩
  · simp only [List.getD]; rw [List.getElem?_eq_getElem hj]; exact decDigits_dig N _ (List.getElem_mem hj)
  · rcases Nat.eq_zero_or_pos N with rfl | h0
    · rw [decDigits_small (by decide)]; rfl
    · exact absurd h (decDigits_head N h0)
theorem Num.step {D : List UInt8} {d N : Nat} (h : Num D d N) (j : Nat) (hj : j < d) : val (D.take (j + 1)) = val (D.take j) * 10 + ((D.getD j 0).toNat - 48) := by
  have hl := h.len
  rw [List.take_succ_eq_append_getElem (by omega), val_snoc]
  simp only [List.getD]
  rw [List.getElem?_eq_getElem (by omega)]
  rfl
theorem Num.le {D : List UInt8} {d N : Nat} (h : Num D d N) (j : Nat) : val (D.take j) ≤ N := by
  have := val_prefix D j; rw [h.all] at this; exact this
theorem Num.full {D : List UInt8} {d N : Nat} (h : Num D d N) : val (D.take d) = N := by
  rw [← h.len, List.take_length, h.all]

theorem digs_eq (t : Int) (h : 0 ≤ t) : digs t = (Lib.itoa t).length := by
  rw [itoa_nat t h, Lib.decDigits_length]
  unfold digs
  split
  · rw [Lib.nDigits_small (by omega)]
  · rfl
theorem bodyN_eq (tg : Nat → Int) (vl : Nat → ByteArray) (n k : Nat) (hk : k ≤ n) (ht : ∀ i, i < n → 0 ≤ tg i) : bodyN tg vl k = (bodyB tg vl k).length := by
  induction k with
  | zero => rfl
  | succ k ih =>
    show bodyN tg vl k + (digs (tg k) + 1 + (vl k).size + 1) = (bodyB tg vl k ++ fieldB (tg k) (vl k)).length
    rw [List.length_append, fieldB_len, ih (by omega), digs_eq _ (ht k (by omega))]
theorem bodyB_split (tg : Nat → Int) (vl : Nat → ByteArray) (n i : Nat) (h : i < n) : ∃ r, bodyB tg vl n = bodyB tg vl i ++ (fieldB (tg i) (vl i) ++ r) := by
  induction n with
  | zero => omega
  | succ n ih =>
    by_cases e : i = n
    · subst e; exact ⟨[], by rw [List.append_nil]; rfl⟩
    · obtain ⟨r, hr⟩ := ih (by omega)
      refine ⟨r ++ fieldB (tg n) (vl n), ?_⟩
      show bodyB tg vl n ++ fieldB (tg n) (vl n) = _
      rw [hr]; simp only [List.append_assoc]

/-- where field i begins -/
def at_ (tg : Nat → Int) (vl : Nat → ByteArray) (d i : Nat) : Nat := 13 + d + (bodyB tg vl i).length
/-- one field in its place, as the law reads it -/
structure InPlace (q : Nat → UInt8) (E : Nat) (T : List UInt8) (tl : Nat) (V : ByteArray) (p p' : Nat) : Prop where
  tag : ∀ j, j < tl → q (p + j) = T.getD j 0
  eq : q (p + tl) = 61
  val : ∀ j (h : j < V.size), q (p + tl + 1 + j) = V[j]
  soh : q (p + tl + 1 + V.size) = 1
  nxt : p' = p + tl + 1 + V.size + 1
  fit : p' ≤ E

theorem getD_data (V : ByteArray) (j : Nat) (h : j < V.size) (r : List UInt8) : (V.data.toList ++ r).getD j 0 = V[j] := by
  rw [getD_left _ _ j (by rw [size_eq]; exact h)]
  simp only [List.getD]
  rw [List.getElem?_eq_getElem (by rw [size_eq]; exact h)]
  rfl

theorem field_in (A r : List UInt8) (T : List UInt8) (V : ByteArray) (E : Nat) (hE : A.length + (T.length + 1 + V.size + 1) ≤ E) :
    InPlace (fun i => (A ++ (T ++ (61 :: (V.data.toList ++ [1])) ++ r)).getD i 0) E T T.length V A.length (A.length + T.length + 1 + V.size + 1) := by
  have t : ∀ k, (A ++ (T ++ (61 :: (V.data.toList ++ [1])) ++ r)).getD (A.length + k) 0 = (T ++ (61 :: (V.data.toList ++ [1])) ++ r).getD k 0 := fun k => getD_right _ _ k
  have u : ∀ k, (T ++ (61 :: (V.data.toList ++ [1])) ++ r).getD (T.length + k) 0 = (61 :: (V.data.toList ++ ([1] ++ r))).getD k 0 := fun k => by
    rw [List.append_assoc, getD_right]; simp only [List.cons_append, List.append_assoc]
  have hv := size_eq V
  refine ⟨fun j hj => ?_, ?_, fun j hj => ?_, ?_, rfl, by omega⟩
  · show (A ++ _).getD (A.length + j) 0 = _
    rw [t, List.append_assoc, getD_left _ _ j hj]
  · show (A ++ _).getD (A.length + T.length) 0 = _
    rw [t]; exact u 0
  · show (A ++ _).getD (A.length + T.length + 1 + j) 0 = _
    rw [show A.length + T.length + 1 + j = A.length + (T.length + (j + 1)) by omega, t, u]
    exact getD_data V j hj _
  · show (A ++ _).getD (A.length + T.length + 1 + V.size) 0 = _
    rw [show A.length + T.length + 1 + V.size = A.length + (T.length + (V.size + 1)) by omega, t, u]
    show (V.data.toList ++ ([1] ++ r)).getD V.size 0 = 1
    have := getD_right V.data.toList ([1] ++ r) 0
    rw [Nat.add_zero, hv] at this
    rw [this]; rfl

/-- the whole message, as the law reads it -/
structure Form (tg : Nat → Int) (vl : Nat → ByteArray) (n : Nat) (q : Nat → UInt8) (D : List UInt8) (d N E : Nat) : Prop where
  num : Num D d N
  dig : ∀ j, j < d → q (12 + j) = D.getD j 0
  soh : q (12 + d) = 1
  size : E = 13 + d + N
  start : at_ tg vl d 0 = 13 + d
  stop : at_ tg vl d n = E
  field : ∀ i, i < n → InPlace q E (Lib.itoa (tg i)) (Lib.itoa (tg i)).length (vl i) (at_ tg vl d i) (at_ tg vl d (i + 1))
  small : N ≤ sizes vl n

theorem form_msg (tg : Nat → Int) (vl : Nat → ByteArray) (n : Nat) (h0 : ∀ i, i < n → 0 ≤ tg i) (ht : ∀ i, i < n → -9223372036854775808 ≤ tg i ∧ tg i ≤ 9223372036854775807) :
    Form tg vl n (fun i => (msg tg vl n).getD i 0) (Lib.itoa (bodyN tg vl n : Int)) (Lib.itoa (bodyN tg vl n : Int)).length (bodyN tg vl n) (pre tg vl n).length := by
  have hN := bodyN_eq tg vl n n (Nat.le_refl _) h0
  have hm : msg tg vl n = headB ++ (Lib.itoa (bodyN tg vl n : Int) ++ (1 :: (bodyB tg vl n ++ trail (sumL (pre tg vl n) % 256)))) := by
    show pre tg vl n ++ _ = _
    generalize trail (sumL (pre tg vl n) % 256) = r
    unfold pre
    simp only [List.append_assoc, List.cons_append]
  have hp : (pre tg vl n).length = 13 + (Lib.itoa (bodyN tg vl n : Int)).length + (bodyB tg vl n).length := by
    unfold pre headB
    simp only [List.length_append, List.length_cons, List.length_nil]
    omega
  generalize hD : Lib.itoa (bodyN tg vl n : Int) = D at *
  refine ⟨hD ▸ num_itoa _, fun j hj => ?_, ?_, ?_, rfl, ?_, fun i hi => ?_, bodyN_le tg vl n n (Nat.le_refl _) ht⟩
  · show (msg tg vl n).getD _ 0 = _
    rw [hm]
    have := getD_right headB (D ++ (1 :: (bodyB tg vl n ++ trail (sumL (pre tg vl n) % 256)))) j
    rw [show headB.length = 12 from rfl] at this
    rw [this, getD_left _ _ j hj]
  · show (msg tg vl n).getD _ 0 = _
    rw [hm]
    have := getD_right headB (D ++ (1 :: (bodyB tg vl n ++ trail (sumL (pre tg vl n) % 256)))) D.length
    rw [show headB.length = 12 from rfl] at this
    rw [this]
    exact getD_right D _ 0
  · rw [hp, hN]
  · show 13 + D.length + _ = _
    rw [hp]
  · obtain ⟨r, hr⟩ := bodyB_split tg vl n i hi
    have hA : (headB ++ (D ++ (1 :: bodyB tg vl i))).length = at_ tg vl D.length i := by
      unfold at_ headB
      simp only [List.length_append, List.length_cons, List.length_nil]
      omega
    have hnx : at_ tg vl D.length (i + 1) = at_ tg vl D.length i + (Lib.itoa (tg i)).length + 1 + (vl i).size + 1 := by
      show 13 + D.length + (bodyB tg vl i ++ fieldB (tg i) (vl i)).length = 13 + D.length + (bodyB tg vl i).length + _ + 1 + _ + 1
      rw [List.length_append, fieldB_len]; omega
    have hfit : at_ tg vl D.length i + ((Lib.itoa (tg i)).length + 1 + (vl i).size + 1) ≤ (pre tg vl n).length := by
      rw [hp, hr]
      show 13 + D.length + (bodyB tg vl i).length + _ ≤ _
      rw [List.length_append, List.length_append, fieldB_len]; omega
    rw [hnx, ← hA]
    rw [← hA] at hfit
    have := field_in (headB ++ (D ++ (1 :: bodyB tg vl i))) (r ++ trail (sumL (pre tg vl n) % 256)) (Lib.itoa (tg i)) (vl i) (pre tg vl n).length hfit
    have e : msg tg vl n = headB ++ (D ++ (1 :: bodyB tg vl i)) ++ (Lib.itoa (tg i) ++ (61 :: ((vl i).data.toList ++ [1])) ++ (r ++ trail (sumL (pre tg vl n) % 256))) := by
      rw [hm, hr]
      generalize trail (sumL (pre tg vl n) % 256) = s
      unfold fieldB
      simp only [List.append_assoc, List.cons_append]
    rw [e]
    exact this

end Go.Proofs.Qxb6629298aDoor
