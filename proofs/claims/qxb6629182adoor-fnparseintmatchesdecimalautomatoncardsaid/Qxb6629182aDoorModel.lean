/- The walk of zzModelDecimal. -/
import Derived.Test.Qxb6629182aDoorCopy
import Derived.Test.Qxb6629182aDoorAuto
import Derived.WalkSpells
namespace Go.Proofs.Qxb6629182aDoor
open Go.ChangeShapes Go.WideShapes Go.ChangeAt Go.RowKit

theorem model_empty (p : Option Addr) (c : Nat) (w : World) :
    Calls Tryd.prog 7 #[.slice p 0 c] w fun e w' => e = .returned (.tuple #[.int .i64 0, .bool false]) ∧ w = w' := by
  go_enter Tryd.func7, Tryd.ntmps7
  go_wp2
  go_ret2
  exact ⟨rfl, rfl⟩

theorem cell_at {w : World} {g : Nat} {l : List UInt8} (hl : Bytes w ⟨g, 0, none⟩ l) (k : Nat) (hk : k < l.length) : w.cell? ⟨g, k, none⟩ = some (.int .u8 (l[k].toNat : Int)) := by
  have := hl k hk
  rwa [show (⟨g, 0, none⟩ : Addr).add k = ⟨g, k, none⟩ by simp [Addr.add]; omega] at this

/-- a minus alone -/
theorem model_minus (g : Nat) (w : World) (hc : w.cell? ⟨g, 0, none⟩ = some (.int .u8 45)) :
    Calls Tryd.prog 7 #[.slice (some ⟨g, 0, none⟩) 1 1] w fun e w' => e = .returned (.tuple #[.int .i64 0, .bool false]) ∧ w = w' := by
  go_enter Tryd.func7, Tryd.ntmps7
  go_wp2
  go_ret2
  exact ⟨rfl, rfl⟩

/-- a zero ahead, behind a minus -/
theorem model_minus_zero (g n : Nat) (w : World) (h2 : 2 ≤ n) (hm : n ≤ 1048577) (hc : w.cell? ⟨g, 0, none⟩ = some (.int .u8 45)) (hc1 : w.cell? ⟨g, 1, none⟩ = some (.int .u8 48)) :
    Calls Tryd.prog 7 #[.slice (some ⟨g, 0, none⟩) n n] w fun e w' => e = .returned (.tuple #[.int .i64 0, .bool false]) ∧ w = w' := by
  have n0 : ((n : Int) == 0) = false := by simp; omega
  have n1 : ((n : Int) == 1) = false := by simp; omega
  have n1' : ((1 : Int) == (n : Int)) = false := by simp; omega
  have p0 : 0 < n := by omega
  have p1 : 1 < n := by omega
  go_enter Tryd.func7, Tryd.ntmps7
  go_wp2
  go_ret2
  exact ⟨rfl, rfl⟩

/-- a zero alone -/
theorem model_zero (g : Nat) (w : World) (hc : w.cell? ⟨g, 0, none⟩ = some (.int .u8 48)) :
    Calls Tryd.prog 7 #[.slice (some ⟨g, 0, none⟩) 1 1] w fun e w' => e = .returned (.tuple #[.int .i64 0, .bool true]) ∧ w = w' := by
  go_enter Tryd.func7, Tryd.ntmps7
  go_wp2
  go_ret2
  exact ⟨rfl, rfl⟩

/-- a zero ahead -/
theorem model_zero_more (g n : Nat) (w : World) (h2 : 2 ≤ n) (hm : n ≤ 1048577) (hc : w.cell? ⟨g, 0, none⟩ = some (.int .u8 48)) :
    Calls Tryd.prog 7 #[.slice (some ⟨g, 0, none⟩) n n] w fun e w' => e = .returned (.tuple #[.int .i64 0, .bool false]) ∧ w = w' := by
  have n0 : ((n : Int) == 0) = false := by simp; omega
  have n0' : ((0 : Int) == (n : Int)) = false := by simp; omega
  have n1 : ((n : Int) == 1) = false := by simp; omega
  have p0 : 0 < n := by omega
  go_enter Tryd.func7, Tryd.ntmps7
  go_wp2
  go_ret2
  exact ⟨rfl, rfl⟩

/-- what the loop keeps: the digits so far, their value, within the bound -/
def Kept (neg : Bool) (r : List UInt8) (j : Nat) (M : Int) : Prop := M = (val (r.take j) : Int) ∧ Digs (r.take j) ∧ val (r.take j) ≤ lim neg

theorem Kept.start (neg : Bool) (r : List UInt8) : Kept neg r 0 0 := ⟨rfl, fun c hc => by simp at hc, by show 0 ≤ _; omega⟩
theorem Kept.bound {neg : Bool} {r : List UInt8} {j : Nat} {M : Int} (h : Kept neg r j M) : 0 ≤ M ∧ M ≤ (lim neg : Int) := by
  obtain ⟨h1, _, h3⟩ := h; omega
theorem Kept.step {neg : Bool} {r : List UInt8} {j : Nat} {M C : Int} (h : Kept neg r j M) (hj : j < r.length) (hC : C = (r[j].toNat : Int)) (hd1 : 48 ≤ C) (hd2 : C ≤ 57) (hb : M * 10 + (C - 48) ≤ (lim neg : Int)) :
    Kept neg r (j + 1) (M * 10 + (C - 48)) := by
  obtain ⟨h1, h2, h3⟩ := h
  have e := take_snoc r j hj
  have ev : val (r.take (j + 1)) = val (r.take j) * 10 + (r[j].toNat - 48) := by rw [e, val_snoc]
  refine ⟨by rw [ev]; omega, ?_, by rw [ev]; omega⟩
  rw [e]
  intro c hc
  rcases List.mem_append.1 hc with hc | hc
  · exact h2 c hc
  · rw [List.mem_singleton.1 hc]; unfold Dig; omega
theorem Kept.over {neg : Bool} {l r : List UInt8} {j : Nat} {M C : Int} (h : Kept neg r j M) (hs : Sg neg l r) (hj : j < r.length) (hC : C = (r[j].toNat : Int)) (hd1 : 48 ≤ C) (hb : (lim neg : Int) < M * 10 + (C - 48)) : PI l 0 false := by
  obtain ⟨h1, h2, h3⟩ := h
  have e := take_snoc r j hj
  have ev : val (r.take (j + 1)) = val (r.take j) * 10 + (r[j].toNat - 48) := by rw [e, val_snoc]
  exact no_over (k := j + 1) 0 hs (by rw [ev]; omega)

/-- the answer for the bytes l -/
def Ans (l : List UInt8) (e : Ending) : Prop := ∃ m ok, e = .returned (.tuple #[.int .i64 m, .bool ok]) ∧ PI l m ok

theorem Kept.whole {neg : Bool} {r : List UInt8} {M : Int} (h : Kept neg r r.length M) : M = (val r : Int) ∧ Digs r ∧ val r ≤ lim neg := by
  unfold Kept at h; rwa [List.take_length] at h

set_option maxHeartbeats 400000 in
theorem model_pos (g n : Nat) (l : List UInt8) (w : World) (hl : Bytes w ⟨g, 0, none⟩ l) (hn : l.length = n) (h1 : 1 ≤ n) (hm : n ≤ 1048577) (C0 : Int) (hC0 : ∀ c t, l = c :: t → C0 = (c.toNat : Int)) (h45 : C0 ≠ 45) (h48 : C0 ≠ 48) :
    Calls Tryd.prog 7 #[.slice (some ⟨g, 0, none⟩) n n] w fun e w' => Ans l e ∧ w = w' := by
  have hc0 : w.cell? ⟨g, 0, none⟩ = some (.int .u8 C0) := by
    cases l with
    | nil => simp at hn; omega
    | cons c t => rw [cell_at hl 0 (by simp), hC0 c t rfl]; rfl
  have hs : Sg false l l := ⟨(fun h => by cases h), fun _ => ⟨rfl, fun c t e => by have := hC0 c t e; omega⟩⟩
  have hz : ∀ c t, l = c :: t → c.toNat ≠ 48 := fun c t e => by have := hC0 c t e; omega
  have HS : Hid (Sg false l l ∧ (∀ c t, l = c :: t → c.toNat ≠ 48) ∧ Bytes w ⟨g, 0, none⟩ l ∧ l.length = n) := ⟨hs, hz, hl, hn⟩
  have b45 : (C0 == 45) = false := by simp; exact h45
  have b48 : (C0 == 48) = false := by simp; exact h48
  have n0 : ((n : Int) == 0) = false := by simp; omega
  have n0' : ((0 : Int) == (n : Int)) = false := by simp; omega
  have p0 : 0 < n := by omega
  clear hs hz hl hn hC0 h45 h48
  go_enter Tryd.func7, Tryd.ntmps7
  go_wp2
  go_loop [5, 8] (fun ti tm => ∃ (k : Nat) (M : Int), k ≤ n ∧ ti = .int .i64 k ∧ tm = .int .u64 M ∧ 0 ≤ M ∧ M ≤ 9223372036854775807 ∧ Hid (Kept false l k M)) (fun ti _ => n - (intOf ti).toNat)
  case atStart => exact ⟨0, 0, Nat.zero_le _, rfl, rfl, by omega, by omega, Kept.start _ _⟩
  case round =>
    obtain ⟨k, M, hk, rfl, rfl, hM0, hM1, HK⟩ := hrel
    by_cases hlt : k < n
    · have hkl : k < l.length := by have := HS.out.2.2.2; omega
      obtain ⟨C, HC⟩ : ∃ C : Int, Hid (C = (l[k].toNat : Int)) := ⟨(l[k].toNat : Int), Eq.refl (l[k].toNat : Int)⟩
      have hcell : w.cell? ⟨g, k, none⟩ = some (.int .u8 C) := by rw [cell_at HS.out.2.2.1 k hkl, HC.out]
      have hC0 : 0 ≤ C := by have := HC.out; omega
      have hC1 : C ≤ 255 := by have := HC.out; have := (l[k]).toNat_lt; omega
      clear hc0
      by_cases hdig : 48 ≤ C ∧ C ≤ 57
      · obtain ⟨hd1, hd2⟩ := hdig
        by_cases hov : (9223372036854775807 - (C - 48)) / 10 < M
        · have HPI : Hid (PI l 0 false) := HK.out.over HS.out.1 hkl HC.out hd1 (by show (9223372036854775807 : Int) < _; omega)
          clear HK HS
          go_wp2
          go_ret2
          exact ⟨⟨_, _, rfl, HPI.out⟩, rfl⟩
        · have HK2 : Hid (Kept false l (k + 1) (M * 10 + (C - 48))) := HK.out.step hkl HC.out hd1 hd2 (by show _ ≤ (9223372036854775807 : Int); omega)
          clear HK
          go_wp2
          go_round
          case rel => exact ⟨k + 1, _, by omega, by go_num, rfl, by omega, by omega, HK2⟩
          case measure => simp [intOf]; omega
      · have HPI : Hid (PI l 0 false) := no_nondig 0 HS.out.1 (List.getElem_mem hkl) (fun h => hdig (by have := HC.out; unfold Dig at h; omega))
        have hd : C < 48 ∨ 57 < C := by omega
        clear hdig HK HS
        rcases hd with hd | hd
        · go_wp2
          go_ret2
          exact ⟨⟨_, _, rfl, HPI.out⟩, rfl⟩
        · have hd' : ¬ C < 48 := by omega
          go_wp2
          go_ret2
          exact ⟨⟨_, _, rfl, HPI.out⟩, rfl⟩
    · have hkn : k = n := by omega
      have HF : Hid (PI l M true) := by
        have hK := HK.out
        rw [hkn, ← HS.out.2.2.2] at hK
        obtain ⟨e1, e2, e3⟩ := hK.whole
        rw [e1]
        exact yes_pos HS.out.1 e2 (by intro e; have := HS.out.2.2.2; rw [e] at this; simp at this; omega) HS.out.2.1 e3
      clear HK HS hkn
      go_wp2
      go_ret2
      exact ⟨⟨_, _, rfl, HF.out⟩, rfl⟩

set_option maxHeartbeats 400000 in
theorem model_neg (g n : Nat) (l r : List UInt8) (w : World) (hl : Bytes w ⟨g, 0, none⟩ l) (hn : l.length = n) (h2 : 2 ≤ n) (hm : n ≤ 1048577) (hlr : l = 45 :: r) (C1 : Int) (hC1 : ∀ c t, r = c :: t → C1 = (c.toNat : Int)) (h48 : C1 ≠ 48) :
    Calls Tryd.prog 7 #[.slice (some ⟨g, 0, none⟩) n n] w fun e w' => Ans l e ∧ w = w' := by
  have hrn : r.length + 1 = n := by rw [← hn, hlr]; simp
  have hc0 : w.cell? ⟨g, 0, none⟩ = some (.int .u8 45) := by
    rw [cell_at hl 0 (by omega)]; subst hlr; rfl
  have hc1 : w.cell? ⟨g, 1, none⟩ = some (.int .u8 C1) := by
    rw [cell_at hl 1 (by omega)]
    subst hlr
    cases r with
    | nil => simp at hrn; omega
    | cons c t => rw [hC1 c t rfl]; rfl
  have hs : Sg true l r := ⟨(fun _ => hlr), fun h => by cases h⟩
  have hz : ∀ c t, r = c :: t → c.toNat ≠ 48 := fun c t e => by have := hC1 c t e; omega
  have hcs : ∀ k, 1 ≤ k → ∀ (hk : k - 1 < r.length), w.cell? ⟨g, k, none⟩ = some (.int .u8 (r[k - 1].toNat : Int)) := fun k h hk => by
    rw [cell_at hl k (by omega)]
    subst hlr
    cases k with
    | zero => omega
    | succ k => rfl
  have HS : Hid (Sg true l r ∧ (∀ c t, r = c :: t → c.toNat ≠ 48) ∧ (∀ k, 1 ≤ k → ∀ (hk : k - 1 < r.length), w.cell? ⟨g, k, none⟩ = some (.int .u8 (r[k - 1].toNat : Int))) ∧ r.length + 1 = n) := ⟨hs, hz, hcs, hrn⟩
  have b48 : (C1 == 48) = false := by simp; exact h48
  have n0 : ((n : Int) == 0) = false := by simp; omega
  have n1' : ((1 : Int) == (n : Int)) = false := by simp; omega
  have p0 : 0 < n := by omega
  have p1 : 1 < n := by omega
  clear hs hz hl hn hC1 h48 hcs hrn hlr
  go_enter Tryd.func7, Tryd.ntmps7
  go_wp2
  go_loop [5, 8] (fun ti tm => ∃ (k : Nat) (M : Int), 1 ≤ k ∧ k ≤ n ∧ ti = .int .i64 k ∧ tm = .int .u64 M ∧ 0 ≤ M ∧ M ≤ 9223372036854775808 ∧ Hid (Kept true r (k - 1) M)) (fun ti _ => n - (intOf ti).toNat)
  case atStart => exact ⟨1, 0, Nat.le_refl _, by omega, rfl, rfl, by omega, by omega, Kept.start _ _⟩
  case round =>
    obtain ⟨k, M, hk1, hk, rfl, rfl, hM0, hM1, HK⟩ := hrel
    by_cases hlt : k < n
    · have hkl : k - 1 < r.length := by have := HS.out.2.2.2; omega
      obtain ⟨C, HC⟩ : ∃ C : Int, Hid (C = (r[k - 1].toNat : Int)) := ⟨(r[k - 1].toNat : Int), Eq.refl (r[k - 1].toNat : Int)⟩
      have hcell : w.cell? ⟨g, k, none⟩ = some (.int .u8 C) := by rw [HS.out.2.2.1 k hk1 hkl, HC.out]
      have hC0 : 0 ≤ C := by have := HC.out; omega
      have hC1 : C ≤ 255 := by have := HC.out; have := (r[k - 1]).toNat_lt; omega
      clear hc0 hc1
      by_cases hdig : 48 ≤ C ∧ C ≤ 57
      · obtain ⟨hd1, hd2⟩ := hdig
        by_cases hov : (9223372036854775808 - (C - 48)) / 10 < M
        · have HPI : Hid (PI l 0 false) := HK.out.over HS.out.1 hkl HC.out hd1 (by show (9223372036854775808 : Int) < _; omega)
          clear HK HS
          go_wp2
          go_ret2
          exact ⟨⟨_, _, rfl, HPI.out⟩, rfl⟩
        · have HK2 : Hid (Kept true r (k + 1 - 1) (M * 10 + (C - 48))) := by
            have := HK.out.step hkl HC.out hd1 hd2 (by show _ ≤ (9223372036854775808 : Int); omega)
            rwa [show k - 1 + 1 = k + 1 - 1 by omega] at this
          clear HK
          go_wp2
          go_round
          case rel => exact ⟨k + 1, _, by omega, by omega, by go_num, rfl, by omega, by omega, HK2⟩
          case measure => simp [intOf]; omega
      · have HPI : Hid (PI l 0 false) := no_nondig 0 HS.out.1 (List.getElem_mem hkl) (fun h => hdig (by have := HC.out; unfold Dig at h; omega))
        have hd : C < 48 ∨ 57 < C := by omega
        clear hdig HK HS
        rcases hd with hd | hd
        · go_wp2
          go_ret2
          exact ⟨⟨_, _, rfl, HPI.out⟩, rfl⟩
        · have hd' : ¬ C < 48 := by omega
          go_wp2
          go_ret2
          exact ⟨⟨_, _, rfl, HPI.out⟩, rfl⟩
    · have hkn : k - 1 = r.length := by have := HS.out.2.2.2; omega
      have HF : Hid (PI l (-M) true) := by
        have hK := HK.out
        rw [hkn] at hK
        obtain ⟨e1, e2, e3⟩ := hK.whole
        rw [e1]
        exact yes_neg HS.out.1 e2 (by intro e; have := HS.out.2.2.2; rw [e] at this; simp at this; omega) HS.out.2.1 e3
      clear HK HS hkn
      by_cases hmin : M = 9223372036854775808
      · subst hmin
        go_wp2
        go_ret2
        exact ⟨⟨_, _, rfl, HF.out⟩, rfl⟩
      · have hmin' : (M == 9223372036854775808) = false := by simp; omega
        have hM2 : M ≤ 9223372036854775807 := by omega
        go_wp2
        go_ret2
        exact ⟨⟨_, _, rfl, HF.out⟩, rfl⟩

/-- zzModelDecimal at every text -/
theorem model_any (g n : Nat) (l : List UInt8) (w : World) (hl : Bytes w ⟨g, 0, none⟩ l) (hn : l.length = n) (hm : n ≤ 1048577) :
    Calls Tryd.prog 7 #[.slice (some ⟨g, 0, none⟩) n n] w fun e w' => Ans l e ∧ w = w' := by
  cases l with
  | nil =>
    obtain rfl : n = 0 := by simpa using hn.symm
    exact (model_empty _ _ w).mono fun e w' ⟨he, hw⟩ => ⟨⟨_, _, he, pi_short 0 (.inl rfl)⟩, hw⟩
  | cons c t =>
    have hc := cell_at hl 0 (by simp)
    have hn' : t.length + 1 = n := by simpa using hn
    by_cases h45 : c.toNat = 45
    · obtain rfl : c = 45 := UInt8.toNat_inj.1 h45
      have hs : Sg true (45 :: t) t := ⟨(fun _ => rfl), fun h => by cases h⟩
      cases t with
      | nil =>
        obtain rfl : n = 1 := by simpa using hn'.symm
        exact (model_minus g w hc).mono fun e w' ⟨he, hw⟩ => ⟨⟨_, _, he, no_empty 0 hs rfl⟩, hw⟩
      | cons c1 t1 =>
        have hc1 := cell_at hl 1 (by simp)
        have hn2 : t1.length + 1 + 1 = n := by simpa using hn'
        by_cases h48 : c1.toNat = 48
        · obtain rfl : c1 = 48 := UInt8.toNat_inj.1 h48
          exact (model_minus_zero g n w (by omega) hm hc hc1).mono fun e w' ⟨he, hw⟩ => ⟨⟨_, _, he, no_zero 0 hs rfl h48 (.inl rfl)⟩, hw⟩
        · exact model_neg g n _ (c1 :: t1) w hl hn (by omega) hm rfl (c1.toNat : Int) (fun c t e => by rw [(List.cons.inj e).1]) (by omega)
    · have hs : Sg false (c :: t) (c :: t) := ⟨(fun h => by cases h), fun _ => ⟨rfl, fun c' t' e => by rw [← (List.cons.inj e).1]; exact h45⟩⟩
      by_cases h48 : c.toNat = 48
      · obtain rfl : c = 48 := UInt8.toNat_inj.1 h48
        cases t with
        | nil =>
          obtain rfl : n = 1 := by simpa using hn'.symm
          exact (model_zero g w hc).mono fun e w' ⟨he, hw⟩ => ⟨⟨_, _, he, yes_zero h48⟩, hw⟩
        | cons c1 t1 =>
          have hn2 : t1.length + 1 + 1 = n := by simpa using hn'
          exact (model_zero_more g n w (by omega) hm hc).mono fun e w' ⟨he, hw⟩ => ⟨⟨_, _, he, no_zero 0 hs rfl h48 (.inr (by simp))⟩, hw⟩
      · exact model_pos g n _ w hl hn (by omega) hm (c.toNat : Int) (fun c t e => by rw [(List.cons.inj e).1]) (by omega) (by omega)

end Go.Proofs.Qxb6629182aDoor
