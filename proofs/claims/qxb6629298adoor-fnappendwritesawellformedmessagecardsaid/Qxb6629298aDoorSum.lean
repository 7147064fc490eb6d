/- checksum, walked. -/
import Derived.Test.Qxb6629298aDoorLeaf
import Derived.Test.Qxb6629298aDoorLanes
import Derived.Test.Qxb6629298aDoorShelf
namespace Go.Proofs.Qxb6629298aDoor
open Go.ChangeShapes Go.WideShapes Go.ChangeAt Go.RowKit

/-- the n bytes q 0, q 1, .. lie from ⟨g, o⟩ on -/
def Row (w : World) (g o n : Nat) (q : Nat → UInt8) : Prop := ∀ i, i < n → w.cell? ⟨g, o + i, none⟩ = some (.int .u8 ((q i).toNat : Int))
theorem Row.below {w w' : World} {g o n : Nat} {q : Nat → UInt8} (h : Row w g o n q) (hb : Below w.heap.size w w') : Row w' g o n q := by
  intro i hi
  have := h i hi
  have hlt : g < w.heap.size := by
    rcases Nat.lt_or_ge g w.heap.size with h' | h'
    · exact h'
    · simp [World.cell?, Array.getElem?_eq_none h'] at this
  rw [hb.cell (p := ⟨g, o + i, none⟩) hlt]; exact this
/-- the sum of the first k bytes -/
def sumQ (q : Nat → UInt8) : Nat → Nat
  | 0 => 0
  | k + 1 => sumQ q k + (q k).toNat
theorem sumQ_8 (q : Nat → UInt8) (k : Nat) : sumQ q (k + 8) = sumQ q k + ((q k).toNat + (q (k + 1)).toNat + (q (k + 2)).toNat + (q (k + 3)).toNat + (q (k + 4)).toNat + (q (k + 5)).toNat + (q (k + 6)).toNat + (q (k + 7)).toNat) := by
  show sumQ q k + _ + _ + _ + _ + _ + _ + _ + _ = _
  omega
theorem sumQ_mono (q : Nat → UInt8) (a b : Nat) (h : a ≤ b) : sumQ q a ≤ sumQ q b := by
  induction b with
  | zero => rw [show a = 0 by omega]; exact Nat.le_refl _
  | succ b ih =>
    by_cases e : a = b + 1
    · rw [e]; exact Nat.le_refl _
    · have := ih (by omega); show sumQ q a ≤ sumQ q b + _; omega

/-- what the walk wants to know of one word -/
structure Word (W E1 E2 : Int) : Prop where
  lo : 0 ≤ W
  hi : W ≤ 18446744073709551615
  even : bits .and .u64 W 71777214294589695 = E1
  odd : bits .and .u64 (W / 256) 71777214294589695 = E2
  e0 : 0 ≤ E1
  e1 : E1 ≤ 71777214294589695
  o0 : 0 ≤ E2
  o1 : E2 ≤ 71777214294589695

theorem uint64_at (g o n c : Nat) (w : World) (q : Nat → UInt8) (hn : 8 ≤ n) (hq : Row w g o n q) :
    Calls Tryd.prog 18 #[.agg #[], .slice (some ⟨g, o, none⟩) n c] w fun e w' => ∃ W E1 E2 : Int, e = .returned (.int .u64 W) ∧ Word W E1 E2 ∧ E1 = evens (q 0) (q 2) (q 4) (q 6) ∧ E2 = evens (q 1) (q 3) (q 5) (q 7) ∧ Below w.heap.size w w' := by
  refine (Any.binary_LE_Uint64 Tryd.laysBin33 g o n c (q 0) (q 1) (q 2) (q 3) (q 4) (q 5) (q 6) (q 7) w hn (hq 0 (by omega)) (hq 1 (by omega)) (hq 2 (by omega)) (hq 3 (by omega)) (hq 4 (by omega)) (hq 5 (by omega)) (hq 6 (by omega)) (hq 7 (by omega))).mono ?_
  rintro e w' ⟨rfl, hb⟩
  have hl := leNat_bound (q 0) (q 1) (q 2) (q 3) (q 4) (q 5) (q 6) (q 7)
  exact ⟨_, _, _, rfl, ⟨by omega, by omega, word_even _ _ _ _ _ _ _ _, word_odd _ _ _ _ _ _ _ _, (evens_bound _ _ _ _).1, (evens_bound _ _ _ _).2, (evens_bound _ _ _ _).1, (evens_bound _ _ _ _).2⟩, rfl, rfl, hb⟩

theorem fold_wrap (S A B C D : Int) : (S + IntKind.u64.wrap (IntKind.u64.wrap (IntKind.u64.wrap (A + B) + C) + D) % 256) % 256 = (S + (A + B + C + D)) % 256 := by
  simp only [IntKind.wrap_u64]; omega

/-- the length of a slice -/
def lenV : Value → Nat | .slice _ L _ => L | _ => 0

/-- where the outer loop stands -/
structure AtK (w : World) (o n : Nat) (q : Nat → UInt8) (k L A : Nat) (S : Int) (wr : World) : Prop where
  sum : k + L = n
  at_ : 0 < L → A = o + k
  val : S = (sumQ q k : Int) % 256
  bel : Below w.heap.size w wr
/-- where the inner loop stands -/
structure AtJ (w : World) (o n : Nat) (q : Nat → UInt8) (k0 k L A j : Nat) (X : Int) (wr : World) : Prop where
  sum : k + L = n
  at_ : 0 < L → A = o + k
  more : 0 < j → k0 < k
  ge : k0 ≤ k
  lanes : Lanes X (sumQ q k - sumQ q k0) j
  bel : Below w.heap.size w wr

set_option maxHeartbeats 1000000 in
set_option maxRecDepth 20000 in
theorem checksum_any (g o n c : Nat) (q : Nat → UInt8) (w : World) (hnc : n ≤ c) (_hm : n ≤ 1000000000) (hq : Row w g o n q) :
    Calls Tryd.prog 16 #[.slice (some ⟨g, o, none⟩) n c] w fun e w' => e = .returned (.int .u8 ((sumQ q n : Int) % 256)) ∧ Below w.heap.size w w' := by
  have HQ : Hid (Row w g o n q) := hq
  clear hq
  go_enter Tryd.func16, Tryd.ntmps16
  go_wp2
  go_loopw [0, 3] (fun tb ts wr => ∃ (k L A C : Nat) (S : Int), L ≤ C ∧ L ≤ n ∧ tb = .slice (some ⟨g, A, none⟩) L C ∧ ts = .int .u8 S ∧ 0 ≤ S ∧ S ≤ 255 ∧ Hid (AtK w o n q k L A S wr)) (fun tb _ _ => lenV tb)
  case atStart => exact ⟨0, n, o, c, 0, hnc, Nat.le_refl _, rfl, rfl, by omega, by omega, by omega, fun _ => rfl, rfl, Below.refl _ _⟩
  case round =>
    obtain ⟨k, L, A, C, S, hLC, hLn, rfl, rfl, hS0, hS1, HK⟩ := hrel
    by_cases h8 : 8 ≤ L
    · have h8' : decide ((8 : Int) ≤ (L : Int)) = true := by simp; omega
      go_wp2
      go_loopw [0, 4, 5] (fun tb tl tn wr => ∃ (k2 L2 A2 C2 j : Nat) (X : Int), L2 ≤ C2 ∧ L2 ≤ n ∧ tb = .slice (some ⟨g, A2, none⟩) L2 C2 ∧ tl = .int .u64 X ∧ tn = .int .i64 j ∧ j ≤ 128 ∧ 0 ≤ X ∧ X ≤ 18446744073709551615 ∧ Hid (AtJ w o n q k k2 L2 A2 j X wr)) (fun _ _ tn _ => 128 - (intOf tn).toNat)
      case atStart => exact ⟨k, L, A, C, 0, 0, hLC, hLn, rfl, rfl, rfl, by omega, by omega, by omega, HK.out.sum, HK.out.at_, fun h => by omega, Nat.le_refl _, by rw [Nat.sub_self]; exact Lanes.start, HK.out.bel⟩
      case round =>
        obtain ⟨k2, L2, A2, C2, j, X, hLC2, hLn2, rfl, rfl, rfl, hj, hX0, hX1, HJ⟩ := hrel
        by_cases hgo : j < 128 ∧ 8 ≤ L2
        · obtain ⟨hj1, hL8⟩ := hgo
          have hj1' : decide ((j : Int) < 128) = true := by simp; omega
          have HR : Hid (Row wr g A2 L2 (fun i => q (k2 + i))) := fun i hi => by
            have := (HQ.out.below HJ.out.bel) (k2 + i) (by have := HJ.out.sum; omega)
            rw [HJ.out.at_ (by omega), Nat.add_assoc]; exact this
          go_wp2_with fail
          refine (uint64_at g A2 L2 C2 wr (fun i => q (k2 + i)) hL8 HR.out).mono ?_
          rintro e w3 ⟨W, E1, E2, rfl, hw, he1, he2, hb3⟩
          obtain ⟨hW0, hW1, heven, hodd, hE10, hE11, hE20, hE21⟩ := hw
          have hln : Lanes (X + (E1 + E2)) (sumQ q (k2 + 8) - sumQ q k) (j + 1) := by
            have h1 := HJ.out.lanes.word (q k2) (q (k2 + 1)) (q (k2 + 2)) (q (k2 + 3)) (q (k2 + 4)) (q (k2 + 5)) (q (k2 + 6)) (q (k2 + 7))
            have h2 := sumQ_mono q k k2 HJ.out.ge
            rw [he1, he2, sumQ_8]
            rw [show sumQ q k2 - sumQ q k + ((q k2).toNat + (q (k2 + 1)).toNat + (q (k2 + 2)).toNat + (q (k2 + 3)).toNat + (q (k2 + 4)).toNat + (q (k2 + 5)).toNat + (q (k2 + 6)).toNat + (q (k2 + 7)).toNat) = sumQ q k2 + ((q k2).toNat + (q (k2 + 1)).toNat + (q (k2 + 2)).toNat + (q (k2 + 3)).toNat + (q (k2 + 4)).toNat + (q (k2 + 5)).toNat + (q (k2 + 6)).toNat + (q (k2 + 7)).toNat) - sumQ q k by omega] at h1
            exact h1
          have hXb := (hln.bound (by omega)).2
          have HLn : Hid (Lanes (X + (E1 + E2)) (sumQ q (k2 + 8) - sumQ q k) (j + 1)) := hln
          have HB : Hid (Below w.heap.size w w3) := HJ.out.bel.trans (hb3.mono HJ.out.bel.size)
          clear hln he1 he2 hb3 HR
          by_cases hC8 : C2 = 8
          · go_wp2_with fail
            go_roundw
            case rel => exact ⟨k2 + 8, L2 - 8, A2, 0, j + 1, X + (E1 + E2), by omega, by omega, rfl, rfl, by go_num, by omega, by omega, hXb, by have := HJ.out.sum; omega, fun h => by omega, fun _ => by have := HJ.out.ge; omega, by have := HJ.out.ge; omega, HLn.out, HB.out⟩
            case measure => simp [intOf]; omega
          · go_wp2_with fail
            go_roundw
            case rel => exact ⟨k2 + 8, L2 - 8, A2 + 8, C2 - 8, j + 1, X + (E1 + E2), by omega, by omega, rfl, rfl, by go_num, by omega, by omega, hXb, by have := HJ.out.sum; omega, fun h => by have := HJ.out.at_ (by omega); omega, fun _ => by have := HJ.out.ge; omega, by have := HJ.out.ge; omega, HLn.out, HB.out⟩
            case measure => simp [intOf]; omega
        · have hless : L2 < L := by
            have h1 := HJ.out.sum
            have h2 := HK.out.sum
            by_cases hj0 : 0 < j
            · have := HJ.out.more hj0; omega
            · omega
          have hfold := HJ.out.lanes.fold hj
          have HS : Hid ((S + (X + X / 65536 + X / 4294967296 + X / 281474976710656)) % 256 = (sumQ q k2 : Int) % 256) := by
            have h1 := HK.out.val
            have h2 := sumQ_mono q k k2 HJ.out.ge
            show _ = _
            omega
          clear hfold
          by_cases hj1 : j < 128
          · have hj1' : decide ((j : Int) < 128) = true := by simp; omega
            have hL8' : decide ((8 : Int) ≤ (L2 : Int)) = false := by simp; omega
            go_wp2_with fail
            go_roundw
            case rel => exact ⟨k2, L2, A2, C2, _, hLC2, hLn2, rfl, rfl, by omega, by omega, HJ.out.sum, HJ.out.at_, by rw [fold_wrap]; exact HS.out, HJ.out.bel⟩
            case measure => simp only [lenV]; exact hless
          · have hj1' : decide ((j : Int) < 128) = false := by simp; omega
            go_wp2_with fail
            go_roundw
            case rel => exact ⟨k2, L2, A2, C2, _, hLC2, hLn2, rfl, rfl, by omega, by omega, HJ.out.sum, HJ.out.at_, by rw [fold_wrap]; exact HS.out, HJ.out.bel⟩
            case measure => simp only [lenV]; exact hless
    · have h8' : decide ((8 : Int) ≤ (L : Int)) = false := by simp; omega
      go_wp2_with fail
      go_loop [3, 49] (fun ts ti => ∃ (i : Nat) (T : Int), i ≤ L ∧ ti = .int .i64 i ∧ ts = .int .u8 T ∧ 0 ≤ T ∧ T ≤ 255 ∧ Hid (T = (sumQ q (k + i) : Int) % 256)) (fun _ ti => L - (intOf ti).toNat)
      case atStart => exact ⟨0, S, Nat.zero_le _, rfl, rfl, hS0, hS1, HK.out.val⟩
      case round =>
        obtain ⟨i, T, hi, rfl, rfl, hT0, hT1, HT⟩ := hrel
        by_cases hlt : i < L
        · obtain ⟨D, HD⟩ : ∃ D : Int, Hid (D = ((q (k + i)).toNat : Int)) := ⟨((q (k + i)).toNat : Int), Eq.refl ((q (k + i)).toNat : Int)⟩
          have hc : wr.cell? ⟨g, A + i, none⟩ = some (.int .u8 D) := by
            have := (HQ.out.below HK.out.bel) (k + i) (by have := HK.out.sum; omega)
            rw [HK.out.at_ (by omega), Nat.add_assoc, HD.out]; exact this
          have hD0 : 0 ≤ D := by rw [HD.out]; omega
          have hD1 : D ≤ 255 := by rw [HD.out]; have := (q (k + i)).toNat_lt; omega
          go_wp2_with fail
          go_round
          case rel =>
            refine ⟨i + 1, _, by omega, by go_num, rfl, by omega, by omega, ?_⟩
            show _ = ((sumQ q (k + i) + (q (k + i)).toNat : Nat) : Int) % 256
            rw [HT.out, HD.out]; omega
          case measure => simp [intOf]; omega
        · have HE : Hid (T = (sumQ q n : Int) % 256) := by
            show T = _
            rw [HT.out, show k + i = n by have := HK.out.sum; omega]
          go_wp2_with fail
          go_ret
          exact ⟨by rw [← HE.out]; rfl, HK.out.bel⟩

end Go.Proofs.Qxb6629298aDoor
