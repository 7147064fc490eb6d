/- The arguments in one form each; the message's cells. -/
import Derived.Test.Qxb6629298aDoorToFix
namespace Go.Proofs.Qxb6629298aDoor
open Go.ChangeShapes Go.WideShapes Go.ChangeAt Go.RowKit

/-- the bytes that came in: nil, or a row -/
def IsDst (w : World) (p : Option Addr) (nd cd : Nat) (l : List UInt8) : Prop := l.length = nd ∧ ((p = none ∧ nd = 0 ∧ cd = 0) ∨ ∃ x, p = some x ∧ Bytes w x l)
/-- the fields that came in: nil, or a row -/
def IsFs (w : World) (p : Option Addr) (n c : Nat) (tg : Nat → Int) (vl : Nat → ByteArray) : Prop := (p = none ∧ n = 0 ∧ c = 0) ∨ ∃ x, p = some x ∧ ArgF w x n tg vl

theorem IsDst.below {w w' : World} {p : Option Addr} {nd cd : Nat} {l : List UInt8} (h : IsDst w p nd cd l) (hb : Below w.heap.size w w') : IsDst w' p nd cd l :=
  ⟨h.1, h.2.elim .inl fun ⟨x, e, h⟩ => .inr ⟨x, e, h.below hb⟩⟩
theorem IsFs.below {w w' : World} {p : Option Addr} {n c : Nat} {tg : Nat → Int} {vl : Nat → ByteArray} (h : IsFs w p n c tg vl) (hb : Below w.heap.size w w') : IsFs w' p n c tg vl :=
  h.elim .inl fun ⟨x, e, h⟩ => .inr ⟨x, e, h.below hb⟩
theorem IsFs.fit {w : World} {p : Option Addr} {n c : Nat} {tg : Nat → Int} {vl : Nat → ByteArray} (h : IsFs w p n c tg vl) : ∀ i, i < n → -9223372036854775808 ≤ tg i ∧ tg i ≤ 9223372036854775807 := by
  rcases h with ⟨_, rfl, _⟩ | ⟨x, _, h⟩
  · intro i hi; omega
  · exact h.fit
theorem IsFs.get {w : World} {p : Option Addr} {n c : Nat} {tg : Nat → Int} {vl : Nat → ByteArray} (h : IsFs w p n c tg vl) (k : Nat) (hk : k < n) : ∃ x, p = some x ∧ ArgF w x n tg vl := by
  rcases h with ⟨_, rfl, _⟩ | h
  · omega
  · exact h

theorem bytes13_any (pd : Option Addr) (nd cd : Nat) (pf : Option Addr) (n c : Nat) (tg : Nat → Int) (vl : Nat → ByteArray) (w : World) (hF : IsFs w pf n c tg vl) (hd : nd ≤ 9223372036854775807) (hn : n ≤ 9223372036854775807) :
    Calls Tryd.prog 13 #[.slice pd nd cd, .slice pf n c] w fun e w' => ZAns nd n vl e ∧ w = w' := by
  by_cases h : nd ≤ 1048576 ∧ n ≤ 1048576 ∧ nd + n ≤ 1048576
  · rcases hF with ⟨rfl, rfl, rfl⟩ | ⟨x, rfl, hA⟩
    · exact bytes13_nil pd nd cd vl w h.1
    · exact bytes13_in pd nd cd x n c tg vl w hA h.1 h.2.1 h.2.2
  · exact bytes13_big pd pf nd cd n c vl w hd hn h
theorem bytes5_any (pd : Option Addr) (nd cd : Nat) (pf : Option Addr) (n c : Nat) (tg : Nat → Int) (vl : Nat → ByteArray) (w : World) (hF : IsFs w pf n c tg vl) (hd : nd ≤ 9223372036854775807) (hn : n ≤ 9223372036854775807) :
    Calls Tryd.prog 5 #[.slice pd nd cd, .slice pf n c] w fun e w' => ZAns nd n vl e ∧ w = w' := by
  by_cases h : nd ≤ 1048576 ∧ n ≤ 1048576 ∧ nd + n ≤ 1048576
  · rcases hF with ⟨rfl, rfl, rfl⟩ | ⟨x, rfl, hA⟩
    · exact bytes5_nil pd nd cd vl w h.1
    · exact bytes5_in pd nd cd x n c tg vl w hA h.1 h.2.1 h.2.2
  · exact bytes5_big pd pf nd cd n c vl w hd hn h
theorem toFix_any (pf : Option Addr) (n c : Nat) (tg : Nat → Int) (vl : Nat → ByteArray) (w : World) (hF : IsFs w pf n c tg vl) (hn : n ≤ 10000000) :
    Calls Tryd.prog 8 #[.slice pf n c] w fun e w' => ∃ g, e = .returned (.slice (some ⟨g, 0, none⟩) n n) ∧ FieldsAt w' g n tg vl ∧ Below w.heap.size w w' := by
  rcases hF with ⟨rfl, rfl, rfl⟩ | ⟨x, rfl, hA⟩
  · exact toFix_nil tg vl w
  · exact toFix_some x n c tg vl w hA hn
theorem clone_any (pd : Option Addr) (nd cd : Nat) (l : List UInt8) (w : World) (hD : IsDst w pd nd cd l) (hn : nd ≤ 100000000) :
    Calls Tryd.prog 6 #[.slice pd nd cd] w fun e w' => ∃ v, e = .returned v ∧ St w w.heap.size l v w' := by
  obtain ⟨hl, ⟨rfl, rfl, rfl⟩ | ⟨x, rfl, hB⟩⟩ := hD
  · obtain rfl := List.eq_nil_of_length_eq_zero hl
    exact clone_nil w
  · exact clone_some x nd cd l w hB hl hn

/-- the first bytes of a row that is l ++ r are l, as they came in -/
theorem hasAt_dst (g nb cb : Nat) (pd : Option Addr) (nd cd : Nat) (l r : List UInt8) (w : World) (hD : IsDst w pd nd cd l) (hb : Row w g 0 nb (fun i => (l ++ r).getD i 0)) (hn : nd ≤ nb) (hm : nb ≤ 1000000000) :
    Calls Tryd.prog 9 #[.slice (some ⟨g, 0, none⟩) nb cb, .int .i64 0, .slice pd nd cd] w fun e w' => e = .returned (.bool true) ∧ ∃ m, w' = w.drewN m := by
  obtain ⟨hl, ⟨rfl, rfl, rfl⟩ | ⟨x, rfl, hB⟩⟩ := hD
  · exact hasAt_nil ⟨g, 0, none⟩ nb cb 0 w (by omega) hm
  · refine hasAt_some ⟨g, 0, none⟩ x nb cb 0 nd cd w (by omega) hm fun k hk => ⟨(l[k].toNat : Int), ?_, hB k (by omega)⟩
    have h1 := hb k (by omega)
    rw [Nat.zero_add] at h1
    rw [add_lit0, Nat.zero_add, h1]
    simp only [List.getD]
    rw [List.getElem?_append_left (by omega), List.getElem?_eq_getElem (by omega)]
    rfl

/-- two rows of bytes, the one inside the other -/
theorem hasAt_rows (g nb cb p g2 n c : Nat) (q q2 : Nat → UInt8) (w : World) (h1 : Row w g 0 nb q) (h2 : Row w g2 0 n q2) (he : ∀ i, i < n → q (p + i) = q2 i) (hp : p + n ≤ nb) (hm : nb ≤ 1000000000) :
    Calls Tryd.prog 9 #[.slice (some ⟨g, 0, none⟩) nb cb, .int .i64 p, .slice (some ⟨g2, 0, none⟩) n c] w fun e w' => e = .returned (.bool true) ∧ ∃ m, w' = w.drewN m := by
  refine hasAt_some ⟨g, 0, none⟩ ⟨g2, 0, none⟩ nb cb p n c w hp hm fun k hk => ⟨((q2 k).toNat : Int), ?_, ?_⟩
  · have := h1 (p + k) (by omega)
    rw [Nat.zero_add] at this
    rw [add_lit0, this, he k hk]
  · have := h2 k hk
    rw [Nat.zero_add] at this
    rw [add_lit0, this]

theorem sumF_getD (l : List UInt8) (k : Nat) : sumF (fun i => ((l.getD i 0).toNat : Int)) k = (sumQ (fun i => l.getD i 0) k : Int) := by
  induction k with
  | zero => rfl
  | succ k ih =>
    show sumF (fun i => ((l.getD i 0).toNat : Int)) k + ((l.getD k 0).toNat : Int) = ((sumQ (fun i => l.getD i 0) k + (l.getD k 0).toNat : Nat) : Int)
    rw [ih]; omega
theorem getD_left (a b : List UInt8) (i : Nat) (h : i < a.length) : (a ++ b).getD i 0 = a.getD i 0 := by
  simp only [List.getD]; rw [List.getElem?_append_left h]
theorem getD_right (a b : List UInt8) (i : Nat) : (a ++ b).getD (a.length + i) 0 = b.getD i 0 := by
  simp only [List.getD]; rw [List.getElem?_append_right (by omega), Nat.add_sub_cancel_left]
theorem sumQ_congr (q r : Nat → UInt8) (k : Nat) (h : ∀ i, i < k → q i = r i) : sumQ q k = sumQ r k := by
  induction k with
  | zero => rfl
  | succ k ih => show sumQ q k + _ = sumQ r k + _; rw [ih (fun i hi => h i (by omega)), h k (by omega)]

/-- the message's row is as zzTrailerOK wants it -/
theorem trail_of {w : World} {g o : Nat} (P : List UInt8) (s : Nat) (hs : s = sumL P % 256) (h : Row w g o (P.length + 7) (fun i => (P ++ trail s).getD i 0)) :
    Trail w g o P.length (fun i => (((P ++ trail s).getD i 0).toNat : Int)) := by
  have hsum : sumF (fun i => (((P ++ trail s).getD i 0).toNat : Int)) P.length % 256 = (s : Int) := by
    rw [sumF_getD, sumQ_congr _ (fun i => P.getD i 0) _ (fun i hi => getD_left P (trail s) i hi), sumQ_getD P P.length (Nat.le_refl _), List.take_length, hs]
    omega
  have hlt : s < 256 := by omega
  have t : ∀ i, (P ++ trail s).getD (P.length + i) 0 = (trail s).getD i 0 := fun i => getD_right P (trail s) i
  have d1 : (UInt8.ofNat (48 + s / 100)).toNat = 48 + s / 100 := by rw [UInt8.toNat_ofNat']; omega
  have d2 : (UInt8.ofNat (48 + s / 10 % 10)).toNat = 48 + s / 10 % 10 := by rw [UInt8.toNat_ofNat']; omega
  have d3 : (UInt8.ofNat (48 + s % 10)).toNat = 48 + s % 10 := by rw [UInt8.toNat_ofNat']; omega
  refine ⟨h, fun i _ => by omega, fun i _ => by have := ((P ++ trail s).getD i 0).toNat_lt; omega, ?_, ?_, ?_, ?_, ?_, ?_, ?_⟩
  · show (((P ++ trail s).getD (P.length + 0) 0).toNat : Int) = 49
    rw [t]; rfl
  · rw [t]; rfl
  · rw [t]; rfl
  · rw [t, hsum]; show ((UInt8.ofNat (48 + s / 100)).toNat : Int) = _; rw [d1]; omega
  · rw [t, hsum]; show ((UInt8.ofNat (48 + s / 10 % 10)).toNat : Int) = _; rw [d2]; omega
  · rw [t, hsum]; show ((UInt8.ofNat (48 + s % 10)).toNat : Int) = _; rw [d3]; omega
  · rw [t]; rfl

end Go.Proofs.Qxb6629298aDoor
