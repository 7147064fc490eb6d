/- The walk of the law FnHasMatchesRangeModel. -/
import Derived.Test.Qxb6629255aAsc
namespace Go.Proofs.Qxb6629255a
open Go.ChangeShapes Go.WideShapes Go.ChangeAt Go.RowKit

theorem bytes5 (p : Option Addr) (n c : Nat) (x : Int) (w : World) (hn : n ≤ 1048576) :
    Calls Try.prog 5 #[.slice p n c, .int .u32 x] w fun e w' => e = .returned (.bool true) ∧ w = w' := by
  go_enter Try.func5, Try.ntmps5
  go_wp2
  go_ret
  exact ⟨rfl, rfl⟩

theorem match_long (a0 : Option Addr) (n c : Nat) (x : Int) (w : World) (hn : 262144 < n) (hm : n ≤ 9223372036854775807) :
    Calls Try.prog 3 #[.slice a0 n c, .int .u32 x] w fun e w' => e = .returned (.bool true) ∧ w = w' := by
  by_cases h : 1048576 < n
  · go_enter Try.func3, Try.ntmps3
    go_wp2
    go_ret
    exact ⟨rfl, rfl⟩
  · go_enter Try.func3, Try.ntmps3
    go_wp2
    go_ret
    exact ⟨rfl, rfl⟩

theorem match_nil (x : Int) (w : World) :
    Calls Try.prog 3 #[.slice none 0 0, .int .u32 x] w fun e w' => e = .returned (.bool true) ∧ w = w' := by
  have hne := neq22
  go_enter Try.func3, Try.ntmps3
  go_wp2_with (first | (go_at_call 5; refine (bytes5 _ _ _ _ _ (by omega)).mono ?_; rintro e w' ⟨rfl, rfl⟩) | (go_at_call 6; refine (asc_nil _).mono ?_; rintro e w' ⟨rfl, rfl⟩))
  go_loop [6, 7] (fun tw ti => tw = .bool false ∧ ti = .int .i64 0) (fun _ _ => 0)
  case atStart => exact ⟨rfl, rfl⟩
  case round =>
    obtain ⟨rfl, rfl⟩ := hrel
    go_wp2_with (go_at_call 7; refine (has_nil _ _).mono ?_; rintro e w' ⟨rfl, rfl⟩)
    go_ret
    exact ⟨rfl, rfl⟩

/-- what the loop has seen when it stands at k: the cut is odd and lies at k or below -/
def seen (c k : Nat) : Bool := par c && decide (c ≤ k)
theorem seen_zero (c : Nat) : seen c 0 = false := by
  unfold seen par; cases c <;> simp
theorem seen_end (c n k : Nat) (h : c ≤ n) (hk : n ≤ k) : seen c k = par c := by
  unfold seen; rw [decide_eq_true (by omega)]; simp
theorem seen_yes (c k : Nat) (hk : k % 2 = 0) (h : c = k + 1) : seen c (k + 2) = true := by
  unfold seen par; subst h; simp; omega
theorem seen_no (c k : Nat) (hk : k % 2 = 0) (h : c ≠ k + 1) : seen c (k + 2) = seen c k := by
  unfold seen par
  rw [Bool.eq_iff_iff]; simp; omega

set_option maxHeartbeats 1000000 in
theorem match_some (a : Addr) (n cap : Nat) (f : Nat → Int) (x : Int) (w : World) (hn : n ≤ 262144) (hc : Cells w a n f) :
    Calls Try.prog 3 #[.slice (some a) n cap, .int .u32 x] w fun e w' => e = .returned (.bool true) ∧ Below w.heap.size w w' := by
  have HC : Hid (Cells w a n f) := hc
  have hne := neq22
  clear hc
  go_enter Try.func3, Try.ntmps3
  go_wp2_with (go_at_call 5; refine (bytes5 _ _ _ _ _ (by omega)).mono ?_; rintro e w' ⟨rfl, rfl⟩)
  refine (asc_any a n cap f _ (by omega) HC.out).mono ?_
  rintro e w' ⟨⟨b, rfl, hb⟩, m, rfl⟩
  cases b
  · go_wp2_with fail
    go_ret
    exact ⟨rfl, below_drewN _ _⟩
  · have ha := hb rfl
    obtain ⟨c, hcut⟩ := cut_some n f x ha
    obtain ⟨w1, hmk, hg1, hb1, hs1⟩ := make_row (w.drewN m) n (by omega)
    have hcells1 : Cells w1 a n f := (HC.out.below (below_drewN w m)).below hb1
    obtain ⟨w2, hcp, hg2, hb2, hs2⟩ := copy_row w1 (w.drewN m).heap.size n a cap f hcells1 hg1
    obtain ⟨g, hg⟩ : ∃ g, g = (w.drewN m).heap.size := ⟨_, rfl⟩
    rw [← hg] at hmk hcp hg2
    have hbel : Below w.heap.size w w2 := (below_drewN w m).trans (hb1.trans hb2)
    have HW : Hid (Cells w2 ⟨g, 0, none⟩ n f ∧ Asc n f ∧ Cut n f x c ∧ Below w.heap.size w w2) := ⟨row_cells hg2, ha, hcut, hbel⟩
    have hle := hcut.le
    clear hb ha hcut hg1 hb1 hs1 hcells1 hg2 hb2 hs2 hg hbel HC
    go_wp2_with fail
    go_loop [6, 7] (fun tw ti => ∃ k : Nat, k ≤ n + 1 ∧ k % 2 = 0 ∧ ti = .int .i64 k ∧ tw = .bool (seen c k)) (fun _ ti => n + 2 - (intOf ti).toNat)
    case atStart => exact ⟨0, by omega, rfl, rfl, by rw [seen_zero]⟩
    case round =>
      obtain ⟨k, hk, hk2, rfl, rfl⟩ := hrel
      have HK2 : Hid (k % 2 = 0) := hk2
      clear hk2
      by_cases hlt : k < n
      · obtain ⟨V, HV⟩ : ∃ V : Int, Hid (V = f k) := ⟨f k, Eq.refl (f k)⟩
        have hcell : w2.cell? ⟨g, k, none⟩ = some (.int .u32 V) := by
          have := HW.out.1 k hlt
          rw [show (⟨g, 0, none⟩ : Addr).add k = ⟨g, k, none⟩ by simp [Addr.add]; omega] at this
          rw [this, HV.out]
        by_cases hk1 : k + 1 < n
        · obtain ⟨U, HU⟩ : ∃ U : Int, Hid (U = f (k + 1)) := ⟨f (k + 1), Eq.refl (f (k + 1))⟩
          have hcell2 : w2.cell? ⟨g, k + 1, none⟩ = some (.int .u32 U) := by
            have := HW.out.1 (k + 1) hk1
            rw [show (⟨g, 0, none⟩ : Addr).add (k + 1) = ⟨g, k + 1, none⟩ by simp [Addr.add]] at this
            rw [this, HU.out]
          by_cases hck : c = k + 1
          · have h1 : V ≤ x := by rw [HV.out]; exact HW.out.2.2.1.lo k (by omega)
            have h2 : x < U := by rw [HU.out]; exact HW.out.2.2.1.hi (k + 1) (by omega) hk1
            have HS : Hid (seen c (k + 2) = true) := seen_yes c k HK2.out hck
            clear hck
            go_wp2_with fail
            go_round
            case rel => exact ⟨k + 2, by omega, by have := HK2.out; omega, by go_num, by rw [HS.out]⟩
            case measure => simp [intOf]; omega
          · have HS : Hid (seen c (k + 2) = seen c k) := seen_no c k HK2.out hck
            by_cases hkc : k < c
            · have h1 : V ≤ x := by rw [HV.out]; exact HW.out.2.2.1.lo k hkc
              have h2 : ¬ x < U := by rw [HU.out]; have := HW.out.2.2.1.lo (k + 1) (by omega); omega
              clear hck
              go_wp2_with fail
              go_round
              case rel => exact ⟨k + 2, by omega, by have := HK2.out; omega, by go_num, by rw [HS.out]⟩
              case measure => simp [intOf]; omega
            · have h1 : ¬ V ≤ x := by rw [HV.out]; have := HW.out.2.2.1.hi k (by omega) hlt; omega
              have h1' : decide (V ≤ x) = false := by simp; omega
              clear hck
              go_wp2_with fail
              go_round
              case rel => exact ⟨k + 2, by omega, by have := HK2.out; omega, by go_num, by rw [HS.out]⟩
              case measure => simp [intOf]; omega
        · have hk1' : ¬ (k : Int) + 1 < (n : Int) := by omega
          by_cases hkc : k < c
          · have h1 : V ≤ x := by rw [HV.out]; exact HW.out.2.2.1.lo k hkc
            have HS : Hid (seen c (k + 2) = true) := seen_yes c k HK2.out (by omega)
            go_wp2_with fail
            go_round
            case rel => exact ⟨k + 2, by omega, by have := HK2.out; omega, by go_num, by rw [HS.out]⟩
            case measure => simp [intOf]; omega
          · have h1 : ¬ V ≤ x := by rw [HV.out]; have := HW.out.2.2.1.hi k (by omega) hlt; omega
            have HS : Hid (seen c (k + 2) = seen c k) := seen_no c k HK2.out (by omega)
            go_wp2_with fail
            go_round
            case rel => exact ⟨k + 2, by omega, by have := HK2.out; omega, by go_num, by rw [HS.out]⟩
            case measure => simp [intOf]; omega
      · rw [seen_end c n k hle (by omega)]
        go_wp2_with fail
        refine (has_any ⟨g, 0, none⟩ n n f x c _ (by omega) HW.out.1 HW.out.2.1 HW.out.2.2.1).mono ?_
        rintro e w' ⟨rfl, rfl⟩
        go_wp2_with fail
        go_ret
        exact ⟨rfl, HW.out.2.2.2⟩

theorem match_walk (a0 : Option Addr) (len0 cap0 : Nat) (z0 : List Int) (a1 : Int) (w : World) (w0 : IsRow .u32 w a0 len0 cap0 z0) :
    Calls Try.prog 3 #[.slice a0 len0 cap0, .int .u32 a1] w fun e w' => e = .returned (.bool true) ∧ Below w.heap.size w w' := by
  have hmax : len0 ≤ 9223372036854775807 := by
    rcases w0 with ⟨_, h, _⟩ | ⟨_, _, h1, h2, _⟩
    · omega
    · unfold maxLen at h2; omega
  by_cases hlong : 262144 < len0
  · exact (match_long a0 len0 cap0 a1 w hlong hmax).mono fun e w' ⟨he, hw⟩ => ⟨he, by rw [← hw]; exact Below.refl _ _⟩
  · rcases w0.cells with ⟨rfl, rfl, rfl⟩ | ⟨x, f, rfl, hc, _⟩
    · exact (match_nil a1 w).mono fun e w' ⟨he, hw⟩ => ⟨he, by rw [← hw]; exact Below.refl _ _⟩
    · exact match_some x len0 cap0 f a1 w (by omega) hc

end Go.Proofs.Qxb6629255a
