/- What comes in: a slice of bytes, a slice of structs; zzBytes. -/
import Derived.Test.Qxb6629298aDoorApp
namespace Go.Proofs.Qxb6629298aDoor
open Go.ChangeShapes Go.WideShapes Go.ChangeAt Go.RowKit

/-- the fields as they came in -/
structure ArgF (w : World) (x : Addr) (n : Nat) (tg : Nat → Int) (vl : Nat → ByteArray) : Prop where
  tag : ∀ i, i < n → w.cell? (x.add (i * 2)) = some (.int .i64 (tg i))
  val : ∀ i, i < n → w.cell? ⟨(x.add (i * 2)).block, (x.add (i * 2)).off + 1, none⟩ = some (.string (vl i))
  fit : ∀ i, i < n → -9223372036854775808 ≤ tg i ∧ tg i ≤ 9223372036854775807
  len : ∀ i, i < n → (vl i).size ≤ maxLen

/-- what zzBytes tells -/
def ZAns (nd n : Nat) (vl : Nat → ByteArray) (e : Ending) : Prop := ∃ b : Bool, e = .returned (.bool b) ∧ (b = true → nd ≤ 1048576 ∧ n ≤ 1048576 ∧ ∀ i, i < n → (vl i).size ≤ 1048576)
theorem zans_no (nd n : Nat) (vl : Nat → ByteArray) : ZAns nd n vl (.returned (.bool false)) := ⟨false, rfl, fun h => by cases h⟩

set_option maxHeartbeats 400000 in
theorem bytes13_in (p : Option Addr) (nd cd : Nat) (x : Addr) (n c : Nat) (tg : Nat → Int) (vl : Nat → ByteArray) (w : World) (hA : ArgF w x n tg vl) (hd : nd ≤ 1048576) (hn : n ≤ 1048576) (hs : nd + n ≤ 1048576) :
    Calls Tryd.prog 13 #[.slice p nd cd, .slice (some x) n c] w fun e w' => ZAns nd n vl e ∧ w = w' := by
  have HA : Hid (ArgF w x n tg vl) := hA
  clear hA
  go_enter Tryd.func13, Tryd.ntmps13
  go_wp2
  go_loop [5, 6] (fun ts ti => ∃ (k : Nat) (S : Int), k ≤ n ∧ ti = .int .i64 k ∧ ts = .int .i64 S ∧ 0 ≤ S ∧ S ≤ 1048576 ∧ Hid (∀ i, i < k → (vl i).size ≤ 1048576)) (fun _ ti => n - (intOf ti).toNat)
  case atStart => exact ⟨0, _, Nat.zero_le _, rfl, rfl, by omega, by omega, fun i hi => by omega⟩
  case round =>
    obtain ⟨k, S, hk, rfl, rfl, hS0, hS1, HK⟩ := hrel
    by_cases hlt : k < n
    · obtain ⟨V, HV⟩ : ∃ V : ByteArray, Hid (V = vl k) := ⟨vl k, Eq.refl (vl k)⟩
      have hc : w.cell? ⟨(x.add (k * 2)).block, (x.add (k * 2)).off + 1, none⟩ = some (.string V) := by rw [HV.out]; exact HA.out.val k hlt
      have hm : V.size ≤ 9223372036854775807 := by rw [HV.out]; have := HA.out.len k hlt; unfold maxLen at this; omega
      by_cases h1 : 1048576 < V.size
      · go_wp2
        go_ret
        exact ⟨zans_no _ _ _, rfl⟩
      · by_cases h2 : 1048576 < S + (V.size : Int)
        · go_wp2
          go_ret
          exact ⟨zans_no _ _ _, rfl⟩
        · go_wp2
          go_round
          case rel =>
            refine ⟨k + 1, _, by omega, by go_num, rfl, by omega, by omega, fun i hi => ?_⟩
            by_cases e : i = k
            · rw [e, ← HV.out]; omega
            · exact HK.out i (by omega)
          case measure => simp [intOf]; omega
    · go_wp2
      go_ret
      exact ⟨⟨true, rfl, fun _ => ⟨hd, hn, fun i hi => HK.out i (by omega)⟩⟩, rfl⟩

theorem bytes13_big (p q : Option Addr) (nd cd n c : Nat) (vl : Nat → ByteArray) (w : World) (hd : nd ≤ 9223372036854775807) (hn : n ≤ 9223372036854775807) (h : ¬ (nd ≤ 1048576 ∧ n ≤ 1048576 ∧ nd + n ≤ 1048576)) :
    Calls Tryd.prog 13 #[.slice p nd cd, .slice q n c] w fun e w' => ZAns nd n vl e ∧ w = w' := by
  by_cases h1 : 1048576 < nd
  · go_enter Tryd.func13, Tryd.ntmps13
    go_wp2
    go_ret
    exact ⟨zans_no _ _ _, rfl⟩
  · by_cases h2 : 1048576 < n
    · clear h
      go_enter Tryd.func13, Tryd.ntmps13
      go_wp2
      go_ret
      exact ⟨zans_no _ _ _, rfl⟩
    · have h3 : (1048576 : Int) < (nd : Int) + (n : Int) := by omega
      clear h
      go_enter Tryd.func13, Tryd.ntmps13
      go_wp2
      go_ret
      exact ⟨zans_no _ _ _, rfl⟩

theorem bytes13_nil (p : Option Addr) (nd cd : Nat) (vl : Nat → ByteArray) (w : World) (hd : nd ≤ 1048576) :
    Calls Tryd.prog 13 #[.slice p nd cd, .slice none 0 0] w fun e w' => ZAns nd 0 vl e ∧ w = w' := by
  go_enter Tryd.func13, Tryd.ntmps13
  go_wp2
  go_loop [6] (fun ti => ti = .int .i64 0) (fun _ => 0)
  case atStart => rfl
  case round =>
    subst hrel
    go_wp2
    go_ret
    exact ⟨⟨true, rfl, fun _ => ⟨hd, by omega, fun i hi => by omega⟩⟩, rfl⟩

set_option maxHeartbeats 400000 in
theorem bytes5_in (p : Option Addr) (nd cd : Nat) (x : Addr) (n c : Nat) (tg : Nat → Int) (vl : Nat → ByteArray) (w : World) (hA : ArgF w x n tg vl) (hd : nd ≤ 1048576) (hn : n ≤ 1048576) (hs : nd + n ≤ 1048576) :
    Calls Tryd.prog 5 #[.slice p nd cd, .slice (some x) n c] w fun e w' => ZAns nd n vl e ∧ w = w' := by
  have HA : Hid (ArgF w x n tg vl) := hA
  clear hA
  go_enter Tryd.func5, Tryd.ntmps5
  go_wp2
  go_loop [5, 6] (fun ts ti => ∃ (k : Nat) (S : Int), k ≤ n ∧ ti = .int .i64 k ∧ ts = .int .i64 S ∧ 0 ≤ S ∧ S ≤ 1048576 ∧ Hid (∀ i, i < k → (vl i).size ≤ 1048576)) (fun _ ti => n - (intOf ti).toNat)
  case atStart => exact ⟨0, _, Nat.zero_le _, rfl, rfl, by omega, by omega, fun i hi => by omega⟩
  case round =>
    obtain ⟨k, S, hk, rfl, rfl, hS0, hS1, HK⟩ := hrel
    by_cases hlt : k < n
    · obtain ⟨V, HV⟩ : ∃ V : ByteArray, Hid (V = vl k) := ⟨vl k, Eq.refl (vl k)⟩
      have hc : w.cell? ⟨(x.add (k * 2)).block, (x.add (k * 2)).off + 1, none⟩ = some (.string V) := by rw [HV.out]; exact HA.out.val k hlt
      have hm : V.size ≤ 9223372036854775807 := by rw [HV.out]; have := HA.out.len k hlt; unfold maxLen at this; omega
      by_cases h1 : 1048576 < V.size
      · go_wp2
        go_ret
        exact ⟨zans_no _ _ _, rfl⟩
      · by_cases h2 : 1048576 < S + (V.size : Int)
        · go_wp2
          go_ret
          exact ⟨zans_no _ _ _, rfl⟩
        · go_wp2
          go_round
          case rel =>
            refine ⟨k + 1, _, by omega, by go_num, rfl, by omega, by omega, fun i hi => ?_⟩
            by_cases e : i = k
            · rw [e, ← HV.out]; omega
            · exact HK.out i (by omega)
          case measure => simp [intOf]; omega
    · go_wp2
      go_ret
      exact ⟨⟨true, rfl, fun _ => ⟨hd, hn, fun i hi => HK.out i (by omega)⟩⟩, rfl⟩

theorem bytes5_big (p q : Option Addr) (nd cd n c : Nat) (vl : Nat → ByteArray) (w : World) (hd : nd ≤ 9223372036854775807) (hn : n ≤ 9223372036854775807) (h : ¬ (nd ≤ 1048576 ∧ n ≤ 1048576 ∧ nd + n ≤ 1048576)) :
    Calls Tryd.prog 5 #[.slice p nd cd, .slice q n c] w fun e w' => ZAns nd n vl e ∧ w = w' := by
  by_cases h1 : 1048576 < nd
  · go_enter Tryd.func5, Tryd.ntmps5
    go_wp2
    go_ret
    exact ⟨zans_no _ _ _, rfl⟩
  · by_cases h2 : 1048576 < n
    · clear h
      go_enter Tryd.func5, Tryd.ntmps5
      go_wp2
      go_ret
      exact ⟨zans_no _ _ _, rfl⟩
    · have h3 : (1048576 : Int) < (nd : Int) + (n : Int) := by omega
      clear h
      go_enter Tryd.func5, Tryd.ntmps5
      go_wp2
      go_ret
      exact ⟨zans_no _ _ _, rfl⟩

theorem bytes5_nil (p : Option Addr) (nd cd : Nat) (vl : Nat → ByteArray) (w : World) (hd : nd ≤ 1048576) :
    Calls Tryd.prog 5 #[.slice p nd cd, .slice none 0 0] w fun e w' => ZAns nd 0 vl e ∧ w = w' := by
  go_enter Tryd.func5, Tryd.ntmps5
  go_wp2
  go_loop [6] (fun ti => ti = .int .i64 0) (fun _ => 0)
  case atStart => rfl
  case round =>
    subst hrel
    go_wp2
    go_ret
    exact ⟨⟨true, rfl, fun _ => ⟨hd, by omega, fun i hi => by omega⟩⟩, rfl⟩

end Go.Proofs.Qxb6629298aDoor
