/- The walk of the law FnParseIntMatchesDecimalAutomaton. -/
import Derived.Test.Qxb6629182aDoorModel
namespace Go.Proofs.Qxb6629182aDoor
open Go.ChangeShapes Go.WideShapes Go.ChangeAt Go.RowKit

theorem bytes_on {w w' : World} {a : Addr} {l : List UInt8} (h : Bytes w a l) (hb : Below w.heap.size w w') : Bytes w' a l := by
  intro j hj
  have := h j hj
  have hlt : (a.add j).block < w.heap.size := by
    rcases Nat.lt_or_ge (a.add j).block w.heap.size with h' | h'
    · exact h'
    · simp [World.cell?, Array.getElem?_eq_none h'] at this
  rw [hb.cell hlt]; exact this
theorem notnil (a : Option Addr) (l c : Nat) (w : World) : (binOp .neq 22 (.slice a l c) (.slice none 0 0)).run Tryd.prog w = .ok (.bool (!a.isNone)) w :=
  run_neq_slice_nil_any w 22 5 a l c 0 0 Tryd.underlying22

theorem bytes5 (p : Option Addr) (n c : Nat) (w : World) (hn : n ≤ 1048576) :
    Calls Tryd.prog 5 #[.slice p n c] w fun e w' => e = .returned (.bool true) ∧ w = w' := by
  go_enter Tryd.func5, Tryd.ntmps5
  go_wp2
  go_ret
  exact ⟨rfl, rfl⟩

theorem match_long (a0 : Option Addr) (n c : Nat) (w : World) (hn : 1048576 < n) (hm : n ≤ 9223372036854775807) :
    Calls Tryd.prog 3 #[.slice a0 n c] w fun e w' => e = .returned (.bool true) ∧ w' = w := by
  go_enter Tryd.func3, Tryd.ntmps3
  go_wp2
  go_ret
  exact ⟨rfl, rfl⟩

theorem match_nil (w : World) :
    Calls Tryd.prog 3 #[.slice none 0 0] w fun e w' => e = .returned (.bool true) ∧ w' = w := by
  have hne := notnil
  go_enter Tryd.func3, Tryd.ntmps3
  go_wp2_with (first | (go_at_call 5; refine (bytes5 _ _ _ _ (by omega)).mono ?_; rintro e w' ⟨rfl, rfl⟩) | (go_at_call 6; refine (parse_short none 0 0 _ (.inl rfl) (by omega)).mono ?_; rintro e w' ⟨rfl, rfl⟩) | (go_at_call 7; refine (model_empty none 0 _).mono ?_; rintro e w' ⟨rfl, rfl⟩))
  go_ret
  exact ⟨rfl, rfl⟩

set_option maxHeartbeats 400000 in
theorem match_some (x : Addr) (n c : Nat) (l : List UInt8) (w : World) (hR : Ready w) (hl : Bytes w x l) (hlen : l.length = n) (hn : n ≤ 1048576) :
    Calls Tryd.prog 3 #[.slice (some x) n c] w fun e w' => e = .returned (.bool true) ∧ Below w.heap.size w w' := by
  obtain ⟨w1, hmk, hg1, hb1, hs1⟩ := make_bytes w n (by omega)
  obtain ⟨w2, hcp, hg2, hb2, hs2⟩ := copy_bytes w1 w.heap.size n x n c l (bytes_on hl hb1) hlen (Nat.le_refl _) hg1
  have hB : Below w.heap.size w w2 := hb1.trans hb2
  have HW : Hid (Ready w2 ∧ Bytes w2 ⟨w.heap.size, 0, none⟩ l ∧ Below w.heap.size w w2 ∧ l.length = n) := ⟨hR.below hB, row_bytes hg2, hB, hlen⟩
  have hne := notnil
  clear hg1 hb1 hs1 hg2 hb2 hs2 hB hlen hl hR
  go_enter Tryd.func3, Tryd.ntmps3
  go_wp2_with (go_at_call 5; refine (bytes5 _ _ _ _ (by omega)).mono ?_; rintro e w' ⟨rfl, rfl⟩)
  refine (parse_any (some ⟨w.heap.size, 0, none⟩) n n l _ HW.out.1 (.inr ⟨_, rfl, HW.out.2.1⟩) HW.out.2.2.2 (by omega)).mono ?_
  rintro e w5 ⟨r, ok, rfl, hP, hb5⟩
  have hBw : Below w.heap.size w w5 := HW.out.2.2.1.trans (hb5.mono HW.out.2.2.1.size)
  have HP : Hid (PI l r ok) := hP
  clear hP
  go_wp2_with fail
  refine (model_any w.heap.size n l _ (bytes_on HW.out.2.1 hb5) HW.out.2.2.2 (by omega)).mono ?_
  rintro e w6 ⟨⟨m, okm, rfl, hQ⟩, rfl⟩
  obtain ⟨e1, e2⟩ := HP.out.agree hQ
  subst e1
  clear HP hQ hb5 HW hmk hcp hne
  cases ok
  · clear e2
    go_wp2_with fail
    go_ret
    exact ⟨rfl, hBw⟩
  · have e3 := e2 rfl
    subst e3
    clear e2
    go_wp2_with fail
    go_ret
    exact ⟨rfl, hBw⟩

theorem match_walk (a0 : Option Addr) (len0 cap0 : Nat) (z0 : List Int) (w : World) (w0 : IsRow .u8 w a0 len0 cap0 z0) (hR : Ready w) :
    Calls Tryd.prog 3 #[.slice a0 len0 cap0] w fun e w' => e = .returned (.bool true) ∧ Below w.heap.size w w' := by
  have hmax : len0 ≤ 9223372036854775807 := by
    rcases w0 with ⟨_, h, _⟩ | ⟨_, _, h1, h2, _⟩
    · omega
    · unfold maxLen at h2; omega
  by_cases hlong : 1048576 < len0
  · exact (match_long a0 len0 cap0 w hlong hmax).mono fun e w' ⟨he, hw⟩ => ⟨he, by rw [hw]; exact Below.refl _ _⟩
  · rcases w0.bytes with ⟨rfl, rfl, rfl⟩ | ⟨x, l, rfl, hl, hby⟩
    · exact (match_nil w).mono fun e w' ⟨he, hw⟩ => ⟨he, by rw [hw]; exact Below.refl _ _⟩
    · exact match_some x len0 cap0 l w hR hby hl (by omega)

end Go.Proofs.Qxb6629182aDoor
