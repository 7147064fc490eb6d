/- zzItoa, walked. -/
import Derived.Test.Qxb6629298aDoorFrames
namespace Go.Proofs.Qxb6629298aDoor
open Go.ChangeShapes Go.WideShapes Go.ChangeAt Go.RowKit
open Go.Lib (decDigits)

theorem decDigits_small {u : Nat} (h : u < 10) : decDigits u = [UInt8.ofNat (48 + u)] := Lib.decDigits_one h
theorem decDigits_big {u : Nat} (h : ¬ u < 10) : decDigits u = decDigits (u / 10) ++ [UInt8.ofNat (48 + u % 10)] := by
  rw [decDigits, dif_neg h]
theorem itoa_nat (n : Int) (h : 0 ≤ n) : Lib.itoa n = decDigits n.toNat := by unfold Lib.itoa; rw [if_neg (by omega)]

/-- what the first loop has laid: the low digits, backwards -/
def Rev (n m : Nat) (R : List UInt8) : Prop := (m = 0 → decDigits n = R.reverse) ∧ (0 < m → decDigits n = decDigits m ++ R.reverse)
theorem Rev.start (n : Nat) (h : 0 < n) : Rev n n [] := ⟨fun e => by omega, fun _ => by simp⟩
theorem Rev.step {n m : Nat} {R : List UInt8} (h : Rev n m R) (hm : 0 < m) : Rev n (m / 10) (R ++ [UInt8.ofNat (48 + m % 10)]) := by
  have h2 := h.2 hm
  refine ⟨fun e => ?_, fun e => ?_⟩
  · rw [h2, decDigits_small (by omega), show m % 10 = m by omega]; simp
  · rw [h2, decDigits_big (by omega)]; simp
theorem Rev.len {n m : Nat} {R : List UInt8} (h : Rev n m R) : R.length ≤ (decDigits n).length := by
  rcases Nat.eq_zero_or_pos m with e | e
  · rw [h.1 e]; simp
  · rw [h.2 e]; simp

/-- the second loop's row: the first k cells are set -/
structure Back (w : World) (g n k : Nat) (R : List UInt8) (wr : World) : Prop where
  row : ∃ cur : Array Value, wr.heap[g]? = some (.cells cur 5 (0, 0)) ∧ cur.size = n ∧ ∀ i, i < k → cur[i]? = some (.int .u8 ((R.reverse.getD i 0).toNat : Int))
  bel : Below g w wr

theorem zero_back (w : World) (n : Nat) (R : List UInt8) (hn : n ≤ 1000000) :
    ∃ w1, (Instr.makeSlice 22 (.int .i64 (n : Int)) (.int .i64 (n : Int))).run Tryd.prog w = .ok (.slice (some ⟨w.heap.size, 0, none⟩) n n) w1 ∧ Back w w.heap.size n 0 R w1 := by
  obtain ⟨i, hi, hz0, hz1, hz2⟩ := info_parts info5
  have hr := run_make (P := Tryd.prog) w 22 5 i (.int .u8 0) Tryd.underlying22 hi hz0 .i64 .i64 (n : Int) (n : Int) (by omega) (by omega) (by rw [hz2]; omega) (by omega)
  rw [hz1, Int.toNat_natCast, Nat.mul_one] at hr
  refine ⟨_, hr, ⟨madeCells (Value.int .u8 0).cells n, ?_, size_madeCells _ _, fun i hi => by omega⟩, (Below.refl _ _).alloc (Nat.le_refl _) _⟩
  show (w.heap.push _)[w.heap.size]? = _
  simp

theorem Back.cells {w : World} {g n k : Nat} {R : List UInt8} {wr : World} (h : Back w g n k R wr) (hk : k < n) :
    (∃ c, wr.cell? ⟨g, k, none⟩ = some c) ∧ wr.frozen? ⟨g, k, none⟩ = false := by
  obtain ⟨cur, h1, h2, _⟩ := h.row
  exact ⟨⟨cur[k], by simp [World.cell?, h1]⟩, by simp [World.frozen?, h1]⟩
theorem Back.step {w : World} {g n k : Nat} {R : List UInt8} {wr : World} (h : Back w g n k R wr) (hk : k < n) (D : Int) (hD : D = ((R.reverse.getD k 0).toNat : Int)) :
    Back w g n (k + 1) R (wr.setCell ⟨g, k, none⟩ (.int .u8 D)) := by
  obtain ⟨cur, h1, h2, h3⟩ := h.row
  have e1 := setCell_eq_setRow wr g k cur 5 (0, 0) (.int .u8 D) h1
  have g1 := setRow_heap wr g cur (cur.setIfInBounds k (.int .u8 D)) 5 (0, 0) h1
  rw [← e1] at g1
  refine ⟨⟨_, g1, by simp [h2], fun i hi => ?_⟩, h.bel.setCell (Nat.le_refl _) _⟩
  by_cases e : i = k
  · subst e
    rw [Array.getElem?_setIfInBounds_self_of_lt (by omega), hD]
  · rw [Array.getElem?_setIfInBounds_ne (by omega)]
    exact h3 i (by omega)

set_option maxHeartbeats 1000000 in
set_option maxRecDepth 20000 in
theorem itoa_pos (n : Int) (w : World) (h0 : 0 < n) (h1 : n ≤ 9223372036854775807) :
    Calls Tryd.prog 11 #[.int .i64 n] w fun e w' => ∃ g, e = .returned (.slice (some ⟨g, 0, none⟩) (Lib.itoa n).length (Lib.itoa n).length) ∧ Row w' g 0 (Lib.itoa n).length (fun i => (Lib.itoa n).getD i 0) ∧ Below w.heap.size w w' := by
  have HI := itoa_len n (by omega) h1
  have hne : (n == 0) = false := by simp; omega
  obtain ⟨N, HN⟩ : ∃ N, Hid (N = Lib.itoa n) := ⟨Lib.itoa n, Eq.refl (Lib.itoa n)⟩
  rw [← HN.out] at HI ⊢
  have HN2 : Hid (N = decDigits n.toNat ∧ N.length ≤ 20) := ⟨by rw [HN.out]; exact itoa_nat n (by omega), HI.2⟩
  clear HI
  go_enter Tryd.func11, Tryd.ntmps11
  go_wp2
  go_loopw [0, 3] (fun tn tv wr => ∃ (m : Int) (R : List UInt8), tn = .int .i64 m ∧ 0 ≤ m ∧ m ≤ 9223372036854775807 ∧ Hid (Rev n.toNat m.toNat R ∧ St w w.heap.size R tv wr)) (fun tn _ _ => (intOf tn).toNat)
  case atStart => exact ⟨n, [], rfl, by omega, h1, Rev.start _ (by omega), World.ownsRow_nil _ _ _ _, Below.refl _ _, Lib.OthersKept.refl _ _ _, Nat.le_refl _⟩
  case round =>
    obtain ⟨m, R, rfl, hm0, hm1, HK⟩ := hrel
    by_cases hm : 0 < m
    · have hRl : R.length ≤ 20 := by have h1 := HK.out.1.len; have h2 := HN2.out; rw [← h2.1] at h1; omega
      obtain ⟨v2, w2, hr2, hS2⟩ := HK.out.2.bytes [UInt8.ofNat (48 + m.toNat % 10)] #[.int .u8 (48 + m % 10)] 1 (by
        unfold Lib.byteCells
        have : (UInt8.ofNat (48 + m.toNat % 10)).toNat = 48 + m.toNat % 10 := by rw [UInt8.toNat_ofNat']; omega
        simp only [List.map_cons, List.map_nil, this]
        have e : ((48 + m.toNat % 10 : Nat) : Int) = 48 + m % 10 := by omega
        rw [e]) rfl (by omega)
      have HS2 : Hid (Rev n.toNat (m / 10).toNat (R ++ [UInt8.ofNat (48 + m.toNat % 10)]) ∧ St w w.heap.size (R ++ [UInt8.ofNat (48 + m.toNat % 10)]) v2 w2) := by
        refine ⟨?_, hS2⟩
        have := HK.out.1.step (by omega)
        rwa [show (m / 10).toNat = m.toNat / 10 by omega]
      clear hS2
      go_wp2_with (at_builtin; refine wpList_append_run rfl _ _ 22 22 rfl _ _ v2 w2 rfl rfl hr2 ?_)
      go_roundw
      case rel => exact ⟨m / 10, _, rfl, by omega, by omega, HS2.out⟩
      case measure => simp [intOf]; omega
    · obtain rfl : m = 0 := by omega
      have hR1 := HK.out.1.1 rfl
      have HRe : Hid (R.reverse = N) := by rw [HN2.out.1]; exact hR1.symm
      clear hR1
      obtain ⟨K, HKl⟩ : ∃ K, Hid (R.length = K) := ⟨_, Eq.refl R.length⟩
      have HNK : Hid (N.length = K) := by rw [← HRe.out, List.length_reverse]; exact HKl.out
      have hK1 : K ≤ 20 := by have := HN2.out.2; rw [HNK.out] at this; exact this
      have hK0 : 0 < K := by
        have h1 := HNK.out
        have h2 := Lib.decDigits_length n.toNat
        have h3 := Lib.nDigits_pos n.toNat
        rw [HN2.out.1] at h1
        omega
      obtain ⟨g, cap, hv, hcap, hrow⟩ := HK.out.2.row K HKl.out hK0
      subst hv
      obtain ⟨w1, hmk, hBk⟩ := zero_back wr K R (by omega)
      have HB0 : Hid (Back wr wr.heap.size K 0 R w1) := hBk
      have HG : Hid (Row wr g 0 K (fun i => R.getD i 0) ∧ Below w.heap.size w wr) := ⟨hrow, HK.out.2.bel⟩
      clear hBk hrow HK
      go_wp2_with fail
      go_loopw [5] (fun ti w2 => ∃ k : Nat, k ≤ K ∧ ti = .int .i64 k ∧ Hid (Back wr wr.heap.size K k R w2)) (fun ti _ => K - (intOf ti).toNat)
      case atStart => exact ⟨0, Nat.zero_le _, rfl, HB0.out⟩
      case round =>
        obtain ⟨k, hk, rfl, HBk⟩ := hrel
        by_cases hlt : k < K
        · obtain ⟨D, HD⟩ : ∃ D : Int, Hid (D = ((R.getD (K - 1 - k) 0).toNat : Int)) := ⟨_, Eq.refl ((R.getD (K - 1 - k) 0).toNat : Int)⟩
          have hcl := HG.out.1.below HBk.out.bel (K - 1 - k) (by omega)
          rw [Nat.zero_add, show ((fun i => R.getD i 0) (K - 1 - k)) = R.getD (K - 1 - k) 0 from rfl, ← HD.out] at hcl
          obtain ⟨⟨c, hc⟩, hz⟩ := HBk.out.cells hlt
          have HS := Lib.hid (HBk.out.step hlt D (by
            have := HKl.out
            rw [HD.out]
            simp only [List.getD]
            rw [List.getElem?_reverse (by omega), this]))
          go_wp2_with fail
          go_roundw
          case rel => exact ⟨k + 1, by omega, by go_num, HS.out⟩
          case measure => simp [intOf]; omega
        · obtain rfl : k = K := by omega
          go_wp2_with fail
          go_ret
          rw [HNK.out]
          refine ⟨_, rfl, ?_, HG.out.2.trans (HBk.out.bel.mono HG.out.2.size)⟩
          intro i hi
          obtain ⟨cur, h1, h2, h3⟩ := HBk.out.row
          rw [Nat.zero_add]
          have := h3 i hi
          rw [HRe.out] at this
          simp only [World.cell?, h1]
          exact this

theorem itoa_zero (w : World) :
    Calls Tryd.prog 11 #[.int .i64 0] w fun e w' => ∃ g, e = .returned (.slice (some ⟨g, 0, none⟩) (Lib.itoa 0).length (Lib.itoa 0).length) ∧ Row w' g 0 (Lib.itoa 0).length (fun i => (Lib.itoa 0).getD i 0) ∧ Below w.heap.size w w' := by
  have e0 : Lib.itoa 0 = [48] := by rw [itoa_nat 0 (by omega)]; exact decDigits_small (by decide)
  rw [e0]
  go_enter Tryd.func11, Tryd.ntmps11
  go_wp2
  go_ret
  refine ⟨_, rfl, ?_, (Below.refl _ _).alloc (Nat.le_refl _) _⟩
  intro i hi
  obtain rfl : i = 0 := by simp at hi; exact hi
  rw [Nat.zero_add, World.cell?_alloc_new]
  rfl
/-- zzItoa(n) for n >= 0 -/
theorem itoa_any (n : Int) (w : World) (h0 : 0 ≤ n) (h1 : n ≤ 9223372036854775807) (N : List UInt8) (d : Nat) (hN : Lib.itoa n = N) (hd : N.length = d) :
    Calls Tryd.prog 11 #[.int .i64 n] w fun e w' => ∃ g, e = .returned (.slice (some ⟨g, 0, none⟩) d d) ∧ Row w' g 0 d (fun i => N.getD i 0) ∧ Below w.heap.size w w' := by
  subst hN hd
  by_cases h : n = 0
  · subst h; exact itoa_zero w
  · exact itoa_pos n w (by omega) h1

end Go.Proofs.Qxb6629298aDoor
