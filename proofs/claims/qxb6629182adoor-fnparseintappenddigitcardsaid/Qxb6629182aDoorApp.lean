import Derived.Test.Qxb6629182aDoorCopy
import Derived.WalkSpells
namespace Go.Proofs.Qxb6629182aDoor
open Go.ChangeShapes Go.WideShapes Go.ChangeAt Go.RowKit

theorem app_long (a0 : Option Addr) (n c : Nat) (a1 : Int) (w : World) (hn : 65536 < n) (hm : n ≤ 9223372036854775807) :
    Calls Tryd.prog 4 #[.slice a0 n c, .int .u8 a1] w fun e w' => e = .returned (.bool true) ∧ w' = w := by
  by_cases h : 1048576 < n
  · go_enter Tryd.func4, Tryd.ntmps4
    go_wp2
    go_ret
    exact ⟨rfl, rfl⟩
  · go_enter Tryd.func4, Tryd.ntmps4
    go_wp2
    go_ret
    exact ⟨rfl, rfl⟩

theorem bytes8 (p : Option Addr) (n c : Nat) (d : Int) (w : World) (hn : n ≤ 1048576) :
    Calls Tryd.prog 8 #[.slice p n c, .int .u8 d] w fun e w' => e = .returned (.bool true) ∧ w = w' := by
  go_enter Tryd.func8, Tryd.ntmps8
  go_wp2
  go_ret
  exact ⟨rfl, rfl⟩

theorem Bytes.below {w w' : World} {a : Addr} {l : List UInt8} (h : Bytes w a l) (hb : Below w.heap.size w w') : Bytes w' a l := by
  intro j hj
  have := h j hj
  have hlt : (a.add j).block < w.heap.size := by
    rcases Nat.lt_or_ge (a.add j).block w.heap.size with h' | h'
    · exact h'
    · simp [World.cell?, Array.getElem?_eq_none h'] at this
  rw [hb.cell hlt]; exact this

theorem neq22 (a : Option Addr) (l c : Nat) (w : World) : (binOp .neq 22 (.slice a l c) (.slice none 0 0)).run Tryd.prog w = .ok (.bool (!a.isNone)) w :=
  run_neq_slice_nil_any w 22 5 a l c 0 0 Tryd.underlying22

theorem cell_end {w : World} {g n : Nat} {l : List UInt8} (hlen : l.length = n) (h : w.heap[g]? = some (.cells (l.map B ++ List.replicate (n + 1 - n) (B 0)).toArray 5 (0, 0))) :
    w.cell? ⟨g, n, none⟩ = some (B 0) ∧ w.frozen? ⟨g, n, none⟩ = false := by
  subst hlen
  constructor
  · simp [World.cell?, h]
  · simp [World.frozen?, h]

theorem set_end {w : World} {g n : Nat} {l : List UInt8} (d : UInt8) (hlen : l.length = n) (h : w.heap[g]? = some (.cells (l.map B ++ List.replicate (n + 1 - n) (B 0)).toArray 5 (0, 0))) :
    (w.setCell ⟨g, n, none⟩ (B d)).heap[g]? = some (.cells ((l ++ [d]).map B ++ []).toArray 5 (0, 0)) := by
  subst hlen
  rw [setCell_eq_setRow w g l.length _ 5 (0, 0) _ h, setRow_heap w g _ _ 5 _ h]
  congr 2
  apply Array.ext'
  simp

/-- WHAT IS LAID AHEAD OF THE FIRST ParseInt, at a slice that is not nil -/
theorem laid_some (x : Addr) (n c : Nat) (l : List UInt8) (d : UInt8) (w : World) (hR : Ready w) (hl : Bytes w x l) (hlen : l.length = n) (hn : n ≤ 65536) :
    ∃ w1 w2 w3 w4 : World, ∃ g1 g2 : Nat,
      (Instr.makeSlice 22 (.int .i64 (n : Int)) (.int .i64 (n : Int))).run Tryd.prog w = .ok (.slice (some ⟨g1, 0, none⟩) n n) w1 ∧
      (∀ ty, (Builtin.copy_ #[22, 22] ty #[.slice (some ⟨g1, 0, none⟩) n n, .slice (some x) n c]).run Tryd.prog w1 = .ok (goInt n) w2) ∧
      (Instr.makeSlice 22 (.int .i64 ((n : Int) + 1)) (.int .i64 ((n : Int) + 1))).run Tryd.prog w2 = .ok (.slice (some ⟨g2, 0, none⟩) (n + 1) (n + 1)) w3 ∧
      (∀ ty, (Builtin.copy_ #[22, 22] ty #[.slice (some ⟨g2, 0, none⟩) (n + 1) (n + 1), .slice (some ⟨g1, 0, none⟩) n n]).run Tryd.prog w3 = .ok (goInt n) w4) ∧
      w4.cell? ⟨g2, n, none⟩ = some (B 0) ∧ w4.frozen? ⟨g2, n, none⟩ = false ∧
      Hid (Ready (w4.setCell ⟨g2, n, none⟩ (B d)) ∧ Bytes (w4.setCell ⟨g2, n, none⟩ (B d)) ⟨g2, 0, none⟩ (l ++ [d]) ∧ Bytes (w4.setCell ⟨g2, n, none⟩ (B d)) ⟨g1, 0, none⟩ l ∧
        Below w.heap.size w (w4.setCell ⟨g2, n, none⟩ (B d))) := by
  obtain ⟨w1, hmk, hg1, hb1, hs1⟩ := make_bytes w n (by omega)
  obtain ⟨w2, hcp, hg2, hb2, hs2⟩ := copy_bytes w1 w.heap.size n x n c l (hl.below hb1) hlen (Nat.le_refl _) hg1
  obtain ⟨w3, hmk3, hg3, hb3, hs3⟩ := make_bytes w2 (n + 1) (by omega)
  have hl2 : Bytes w2 ⟨w.heap.size, 0, none⟩ l := row_bytes hg2
  obtain ⟨w4, hcp4, hg4, hb4, hs4⟩ := copy_bytes w3 w2.heap.size (n + 1) ⟨w.heap.size, 0, none⟩ n n l (hl2.below hb3) hlen (by omega) hg3
  have e3 : ((n + 1 : Nat) : Int) = (n : Int) + 1 := by omega
  rw [e3] at hmk3
  obtain ⟨hc, hf⟩ := cell_end hlen hg4
  have hB2 : Below w2.heap.size w2 (w4.setCell ⟨w2.heap.size, n, none⟩ (B d)) := (hb3.trans hb4).setCell (Nat.le_refl _) _
  have hB : Below w.heap.size w (w4.setCell ⟨w2.heap.size, n, none⟩ (B d)) := (hb1.trans hb2).trans (hB2.mono (by omega))
  exact ⟨w1, w2, w3, w4, w.heap.size, w2.heap.size, hmk, hcp, hmk3, hcp4, hc, hf, hR.below hB, row_bytes (set_end d hlen hg4), hl2.below hB2, hB⟩

set_option maxHeartbeats 400000 in
theorem app_some (x : Addr) (n c : Nat) (l : List UInt8) (d : UInt8) (D : Int) (hD : D = (d.toNat : Int)) (w : World) (hR : Ready w) (hl : Bytes w x l) (hlen : l.length = n) (hn : n ≤ 65536) :
    Calls Tryd.prog 4 #[.slice (some x) n c, .int .u8 D] w fun e w' => e = .returned (.bool true) ∧ Below w.heap.size w w' := by
  obtain ⟨w1, w2, w3, w4, g1, g2, hmk, hcp, hmk3, hcp4, hc, hf, HW⟩ := laid_some x n c l d w hR hl hlen hn
  have hne := neq22
  have hB : B d = .int .u8 D := by rw [hD]; rfl
  rw [hB] at HW
  have HD : Hid (D = (d.toNat : Int)) := hD
  have HL : Hid (l.length = n) := hlen
  have hD0 : 0 ≤ D := by omega
  have hD1 : D ≤ 255 := by have := d.toNat_lt; omega
  clear hlen hD hB hR hl
  go_enter Tryd.func4, Tryd.ntmps4
  go_wp2_with (go_at_call 8; refine (bytes8 _ _ _ _ _ (by omega)).mono ?_; rintro e w' ⟨rfl, rfl⟩)
  refine (parse_any (some ⟨g2, 0, none⟩) (n + 1) (n + 1) (l ++ [d]) _ HW.out.1 (.inr ⟨_, rfl, HW.out.2.1⟩) (by simp [HL.out]) (by omega)).mono ?_
  rintro e w5 ⟨r, ok, rfl, hP, hb5⟩
  have HW5 : Hid (Ready w5 ∧ Bytes w5 ⟨g1, 0, none⟩ l ∧ Below w.heap.size w w5) := ⟨HW.out.1.below hb5, HW.out.2.2.1.below hb5, HW.out.2.2.2.trans (hb5.mono HW.out.2.2.2.size)⟩
  clear HW hb5 hmk hcp hmk3 hcp4 hc hf hne
  by_cases hdig : Dig d
  · have hd1 : 48 ≤ D := by have := HD.out; have := hdig.1; omega
    have hd2 : D ≤ 57 := by have := HD.out; have := hdig.2; omega
    have HP : Hid (PI (l ++ [d]) r ok) := hP
    have HG : Hid (Dig d) := hdig
    clear hP hdig
    by_cases hn0 : n = 0
    · have hl0 : l = [] := List.eq_nil_of_length_eq_zero (by rw [HL.out]; exact hn0)
      obtain ⟨ho, hr⟩ := app_empty (r := r) (ok := ok) (by have := HP.out; rwa [hl0] at this) HG.out
      have er : r = D - 48 := by have := HD.out; omega
      subst ho er hn0
      clear hr hl0
      go_wp2_with fail
      go_ret
      exact ⟨rfl, HW5.out.2.2⟩
    · have hne0 : ((n : Int) == 0) = false := by simp; omega
      obtain ⟨c0, rest, HC⟩ : ∃ c0 rest, Hid (l = c0 :: rest) := by
        cases l with
        | nil => exact absurd HL.out.symm (by simpa using hn0)
        | cons c0 rest => exact ⟨c0, rest, rfl⟩
      obtain ⟨C0, HC0⟩ : ∃ C0 : Int, Hid (C0 = (c0.toNat : Int)) := ⟨_, rfl⟩
      have hcell : w5.cell? ⟨g1, 0, none⟩ = some (.int .u8 C0) := by
        have := HW5.out.2.1 0 (by rw [HC.out]; simp)
        rw [show (⟨g1, 0, none⟩ : Addr).add 0 = ⟨g1, 0, none⟩ by simp [Addr.add]] at this
        rw [this, HC0.out]
        simp [HC.out]
      by_cases hmin : n = 1 ∧ C0 = 45
      · obtain ⟨rfl, hC45⟩ := hmin
        have hl45 : l = [45] := by
          have e1 := HL.out
          rw [HC.out] at e1 ⊢
          have e2 : rest = [] := List.eq_nil_of_length_eq_zero (by simpa using e1)
          have e3 : c0 = 45 := UInt8.toNat_inj.1 (by have := HC0.out; show c0.toNat = 45; omega)
          rw [e2, e3]
        have hP := HP.out
        rw [hl45] at hP
        subst hC45
        by_cases h48 : D = 48
        · have ho := app_minus_zero (c := d) hP (by have := HD.out; omega)
          subst ho
          clear hP hl45
          subst h48
          go_wp2_with fail
          go_ret
          exact ⟨rfl, HW5.out.2.2⟩
        · obtain ⟨ho, hr⟩ := app_minus (c := d) hP HG.out (by have := HD.out; omega)
          have er : r = -(D - 48) := by have := HD.out; omega
          have hdz : ((D - 48 : Int) == 0) = false := by simp; omega
          subst ho er
          clear hP hl45 hr
          go_wp2_with fail
          go_ret
          exact ⟨rfl, HW5.out.2.2⟩
      · have hl45 : l ≠ [45] := by
          intro e
          have e1 := HL.out
          rw [e] at e1
          have e2 := HC.out
          rw [e] at e2
          have e3 : c0 = 45 := by simp at e2; exact e2.1.symm
          have e4 : (45 : UInt8).toNat = 45 := rfl
          rw [e3] at HC0
          exact hmin ⟨by simpa using e1.symm, by have := HC0.out; omega⟩
        have hl0 : l ≠ [] := by rw [HC.out]; simp
        have HL45 : Hid (l ≠ [45]) := hl45
        have HL0 : Hid (l ≠ []) := hl0
        clear hl45 hl0
        by_cases hn1 : n = 1
        · have hC45 : (C0 == 45) = false := by simp; exact fun e => hmin ⟨hn1, e⟩
          clear hmin
          subst hn1
          go_wp2_with fail
          refine (parse_any (some ⟨g1, 0, none⟩) 1 1 l _ HW5.out.1 (.inr ⟨_, rfl, HW5.out.2.1⟩) HL.out (by omega)).mono ?_
          rintro e w6 ⟨m, okb, rfl, hQ, hb6⟩
          have hBw : Below w.heap.size w w6 := HW5.out.2.2.trans (hb6.mono HW5.out.2.2.size)
          have hv : ((d.toNat - 48 : Nat) : Int) = D - 48 := by have := HD.out; omega
          cases okb
          · have ho := app_refused HP.out hQ HL0.out HL45.out (.inl rfl)
            subst ho
            clear hQ hv
            go_wp2_with fail
            go_ret
            exact ⟨rfl, hBw⟩
          · by_cases hm0 : m = 0
            · have ho := app_refused HP.out hQ HL0.out HL45.out (.inr hm0)
              subst ho hm0
              clear hQ hv
              go_wp2_with fail
              go_ret
              exact ⟨rfl, hBw⟩
            · have hm0' : (m == 0) = false := by simp; omega
              have hI := hQ.yes.1
              obtain ⟨hI1, hI2⟩ := hI
              by_cases hmp : 0 < m
              · by_cases hbig : 922337203685477580 < m ∨ (m = 922337203685477580 ∧ 7 < D - 48)
                · have ho := app_pos_no HP.out hQ HL0.out HL45.out hmp (by rw [hv]; exact hbig)
                  subst ho
                  clear hQ hv
                  rcases hbig with hbig | ⟨rfl, hbig⟩
                  · go_wp2_with fail
                    go_ret
                    exact ⟨rfl, hBw⟩
                  · go_wp2_with fail
                    go_ret
                    exact ⟨rfl, hBw⟩
                · obtain ⟨ho, hr⟩ := app_pos HP.out hQ HG.out hmp (by rw [hv]; exact hbig)
                  rw [hv] at hr
                  subst ho hr
                  clear hQ hv
                  have h1 : ¬ 922337203685477580 < m := fun h => hbig (.inl h)
                  by_cases h2 : m = 922337203685477580
                  · have h3 : ¬ 7 < D - 48 := fun h => hbig (.inr ⟨h2, h⟩)
                    clear hbig
                    subst h2
                    go_wp2_with fail
                    go_ret
                    exact ⟨rfl, hBw⟩
                  · have h2' : (m == 922337203685477580) = false := by simp; omega
                    clear hbig
                    go_wp2_with fail
                    go_ret
                    exact ⟨rfl, hBw⟩
              · have hmn : m < 0 := by omega
                by_cases hbig : m < -922337203685477580 ∨ (m = -922337203685477580 ∧ -(D - 48) < -8)
                · have ho := app_neg_no HP.out hQ HL0.out HL45.out hmn (by rw [hv]; exact hbig)
                  subst ho
                  clear hQ hv
                  rcases hbig with hbig | ⟨rfl, hbig⟩
                  · go_wp2_with fail
                    go_ret
                    exact ⟨rfl, hBw⟩
                  · go_wp2_with fail
                    go_ret
                    exact ⟨rfl, hBw⟩
                · obtain ⟨ho, hr⟩ := app_neg HP.out hQ HG.out hmn (by rw [hv]; exact hbig)
                  rw [hv] at hr
                  subst ho hr
                  clear hQ hv
                  have h1 : ¬ m < -922337203685477580 := fun h => hbig (.inl h)
                  by_cases h2 : m = -922337203685477580
                  · have h3 : ¬ -(D - 48) < -8 := fun h => hbig (.inr ⟨h2, h⟩)
                    clear hbig
                    subst h2
                    go_wp2_with fail
                    go_ret
                    exact ⟨rfl, hBw⟩
                  · have h2' : (m == -922337203685477580) = false := by simp; omega
                    clear hbig
                    go_wp2_with fail
                    go_ret
                    exact ⟨rfl, hBw⟩
        · have hn1' : ((n : Int) == 1) = false := by simp; omega
          clear hmin
          go_wp2_with fail
          refine (parse_any (some ⟨g1, 0, none⟩) n n l _ HW5.out.1 (.inr ⟨_, rfl, HW5.out.2.1⟩) HL.out (by omega)).mono ?_
          rintro e w6 ⟨m, okb, rfl, hQ, hb6⟩
          have hBw : Below w.heap.size w w6 := HW5.out.2.2.trans (hb6.mono HW5.out.2.2.size)
          have hv : ((d.toNat - 48 : Nat) : Int) = D - 48 := by have := HD.out; omega
          cases okb
          · have ho := app_refused HP.out hQ HL0.out HL45.out (.inl rfl)
            subst ho
            clear hQ hv
            go_wp2_with fail
            go_ret
            exact ⟨rfl, hBw⟩
          · by_cases hm0 : m = 0
            · have ho := app_refused HP.out hQ HL0.out HL45.out (.inr hm0)
              subst ho hm0
              clear hQ hv
              go_wp2_with fail
              go_ret
              exact ⟨rfl, hBw⟩
            · have hm0' : (m == 0) = false := by simp; omega
              have hI := hQ.yes.1
              obtain ⟨hI1, hI2⟩ := hI
              by_cases hmp : 0 < m
              · by_cases hbig : 922337203685477580 < m ∨ (m = 922337203685477580 ∧ 7 < D - 48)
                · have ho := app_pos_no HP.out hQ HL0.out HL45.out hmp (by rw [hv]; exact hbig)
                  subst ho
                  clear hQ hv
                  rcases hbig with hbig | ⟨rfl, hbig⟩
                  · go_wp2_with fail
                    go_ret
                    exact ⟨rfl, hBw⟩
                  · go_wp2_with fail
                    go_ret
                    exact ⟨rfl, hBw⟩
                · obtain ⟨ho, hr⟩ := app_pos HP.out hQ HG.out hmp (by rw [hv]; exact hbig)
                  rw [hv] at hr
                  subst ho hr
                  clear hQ hv
                  have h1 : ¬ 922337203685477580 < m := fun h => hbig (.inl h)
                  by_cases h2 : m = 922337203685477580
                  · have h3 : ¬ 7 < D - 48 := fun h => hbig (.inr ⟨h2, h⟩)
                    clear hbig
                    subst h2
                    go_wp2_with fail
                    go_ret
                    exact ⟨rfl, hBw⟩
                  · have h2' : (m == 922337203685477580) = false := by simp; omega
                    clear hbig
                    go_wp2_with fail
                    go_ret
                    exact ⟨rfl, hBw⟩
              · have hmn : m < 0 := by omega
                by_cases hbig : m < -922337203685477580 ∨ (m = -922337203685477580 ∧ -(D - 48) < -8)
                · have ho := app_neg_no HP.out hQ HL0.out HL45.out hmn (by rw [hv]; exact hbig)
                  subst ho
                  clear hQ hv
                  rcases hbig with hbig | ⟨rfl, hbig⟩
                  · go_wp2_with fail
                    go_ret
                    exact ⟨rfl, hBw⟩
                  · go_wp2_with fail
                    go_ret
                    exact ⟨rfl, hBw⟩
                · obtain ⟨ho, hr⟩ := app_neg HP.out hQ HG.out hmn (by rw [hv]; exact hbig)
                  rw [hv] at hr
                  subst ho hr
                  clear hQ hv
                  have h1 : ¬ m < -922337203685477580 := fun h => hbig (.inl h)
                  by_cases h2 : m = -922337203685477580
                  · have h3 : ¬ -(D - 48) < -8 := fun h => hbig (.inr ⟨h2, h⟩)
                    clear hbig
                    subst h2
                    go_wp2_with fail
                    go_ret
                    exact ⟨rfl, hBw⟩
                  · have h2' : (m == -922337203685477580) = false := by simp; omega
                    clear hbig
                    go_wp2_with fail
                    go_ret
                    exact ⟨rfl, hBw⟩
  · have hok := app_nodig hP hdig
    subst hok
    have hd2 : D < 48 ∨ 57 < D := by have := HD.out; unfold Dig at hdig; omega
    clear hP hdig
    rcases hd2 with hd2 | hd2
    · go_wp2_with fail
      go_ret
      exact ⟨rfl, HW5.out.2.2⟩
    · have hd3 : ¬ D < 48 := by omega
      go_wp2_with fail
      go_ret
      exact ⟨rfl, HW5.out.2.2⟩

set_option maxHeartbeats 400000 in
theorem app_nil (d : UInt8) (D : Int) (hD : D = (d.toNat : Int)) (w : World) (hR : Ready w) :
    Calls Tryd.prog 4 #[.slice none 0 0, .int .u8 D] w fun e w' => e = .returned (.bool true) ∧ Below w.heap.size w w' := by
  obtain ⟨w1, hmk0, hg1, hb1, hs1⟩ := make_bytes w 1 (by omega)
  have hmk : (Instr.makeSlice 22 (.int .i64 1) (.int .i64 1)).run Tryd.prog w = .ok (.slice (some ⟨w.heap.size, 0, none⟩) 1 1) w1 := hmk0
  obtain ⟨g, hg⟩ : ∃ g, g = w.heap.size := ⟨_, rfl⟩
  rw [← hg] at hmk hg1
  have hg1' : w1.heap[g]? = some (.cells ((([] : List UInt8)).map B ++ List.replicate (0 + 1 - 0) (B 0)).toArray 5 (0, 0)) := hg1
  obtain ⟨hc, hf⟩ := cell_end (n := 0) rfl hg1'
  have hset := set_end (n := 0) d rfl hg1'
  have hcp := copy_nil w1 g 1
  have hne := neq22
  have hB : B d = .int .u8 D := by rw [hD]; rfl
  have hbl : Below w.heap.size w (w1.setCell ⟨g, 0, none⟩ (B d)) := hb1.setCell (by show _ ≤ g; omega) _
  have HW : Hid (Ready (w1.setCell ⟨g, 0, none⟩ (B d)) ∧ Bytes (w1.setCell ⟨g, 0, none⟩ (B d)) ⟨g, 0, none⟩ ([] ++ [d]) ∧ Below w.heap.size w (w1.setCell ⟨g, 0, none⟩ (B d))) :=
    ⟨hR.below hbl, row_bytes hset, hbl⟩
  rw [hB] at HW
  have HD : Hid (D = (d.toNat : Int)) := hD
  have hD0 : 0 ≤ D := by omega
  have hD1 : D ≤ 255 := by have := d.toNat_lt; omega
  clear hD hB hR hset hg1 hg1' hmk0 hb1 hs1 hg hbl
  go_enter Tryd.func4, Tryd.ntmps4
  go_wp2_with (go_at_call 8; refine (bytes8 _ _ _ _ _ (by omega)).mono ?_; rintro e w' ⟨rfl, rfl⟩)
  refine (parse_any (some ⟨g, 0, none⟩) 1 1 [d] _ HW.out.1 (.inr ⟨_, rfl, HW.out.2.1⟩) rfl (by omega)).mono ?_
  rintro e w5 ⟨r, ok, rfl, hP, hb5⟩
  have hBw : Below w.heap.size w w5 := HW.out.2.2.trans (hb5.mono HW.out.2.2.size)
  clear HW hb5 hmk hcp hc hf hne
  by_cases hdig : Dig d
  · have hd1 : 48 ≤ D := by have := HD.out; have := hdig.1; omega
    have hd2 : D ≤ 57 := by have := HD.out; have := hdig.2; omega
    obtain ⟨ho, hr⟩ := app_empty hP hdig
    have er : r = D - 48 := by have := HD.out; omega
    subst ho er
    clear hr hP hdig
    go_wp2_with fail
    go_ret
    exact ⟨rfl, hBw⟩
  · have hok := app_nodig (l := []) hP hdig
    subst hok
    have hd2 : D < 48 ∨ 57 < D := by have := HD.out; unfold Dig at hdig; omega
    clear hP hdig
    rcases hd2 with hd2 | hd2
    · go_wp2_with fail
      go_ret
      exact ⟨rfl, hBw⟩
    · have hd3 : ¬ D < 48 := by omega
      go_wp2_with fail
      go_ret
      exact ⟨rfl, hBw⟩

theorem app_walk (a0 : Option Addr) (len0 cap0 : Nat) (z0 : List Int) (a1 : Int) (w : World) (w0 : IsRow .u8 w a0 len0 cap0 z0) (w1 : (Lit.int .u8 a1).wf = true) (hR : Ready w) :
    Calls Tryd.prog 4 #[.slice a0 len0 cap0, .int .u8 a1] w fun e w' => e = .returned (.bool true) ∧ Below w.heap.size w w' := by
  have hb : 0 ≤ a1 ∧ a1 ≤ 255 := by simpa [Lit.wf, IntKind.min, IntKind.max, IntKind.signed, IntKind.bits] using w1
  have hd : a1 = ((UInt8.ofNat a1.toNat).toNat : Int) := by rw [UInt8.toNat_ofNat']; omega
  have hmax : len0 ≤ 9223372036854775807 := by
    rcases w0 with ⟨_, h, _⟩ | ⟨_, _, h1, h2, _⟩
    · omega
    · unfold maxLen at h2; omega
  by_cases hlong : 65536 < len0
  · exact (app_long a0 len0 cap0 a1 w hlong hmax).mono fun e w' ⟨he, hw⟩ => ⟨he, by rw [hw]; exact Below.refl _ _⟩
  · rcases w0.bytes with ⟨rfl, rfl, rfl⟩ | ⟨x, l, rfl, hl, hby⟩
    · exact app_nil _ a1 hd w hR
    · exact app_some x len0 cap0 l _ a1 hd w hR hby hl (by omega)

end Go.Proofs.Qxb6629182aDoor
