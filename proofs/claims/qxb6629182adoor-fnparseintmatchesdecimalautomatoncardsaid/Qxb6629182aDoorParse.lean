/- The walk of commands.ParseInt over the shelf's contracts of strconv. -/
import Derived.Test.Qxb6629182aDoorRows
import Derived.Test.Qxb6629182aDoorShelf
import Derived.Test.Qxb6629182aDoorNum
import Derived.WalkKit
import Derived.ProofKit
import Derived.Below
import Derived.Laws.IdiomStrings
import Derived.Lib.AppendIntMem
import Derived.Lib.AtoiErrMem
namespace Go.Proofs.Qxb6629182aDoor
open Go.ChangeShapes Go.WideShapes Go.ChangeAt Go.RowKit

/-- the name of the table of powers of ten, as the row itself lists it -/
abbrev tabName : String := Rows.fnParseIntAppendDigitRow.named.getD 2 default

/-- what the library's text asks of the world: its table, its two sentinels -/
structure Ready (w : World) : Prop where
  tab : Lib.TabIs Tryd.prog w tabName .u64 Lib.pow10Tab
  syn : ∃ tp p, w.var? Tryd.prog "strconv.ErrSyntax" = some #[.iface tp p]
  rng : ∃ tp p, w.var? Tryd.prog "strconv.ErrRange" = some #[.iface tp p]

theorem var_below {w w' : World} {n : String} {cs : Array Value} (hb : Below w.heap.size w w') (h : w.var? Tryd.prog n = some cs) : w'.var? Tryd.prog n = some cs := by
  unfold World.var? at h ⊢
  cases hg : Tryd.prog.globalNamed n with
  | none => simp [hg] at h
  | some g =>
    simp only [hg, Option.bind_some] at h ⊢
    have hlt : g < w.heap.size := by
      rcases Nat.lt_or_ge g w.heap.size with h' | h'
      · exact h'
      · simp [Array.getElem?_eq_none h'] at h
    rw [hb.block g hlt]; exact h

theorem Ready.below {w w' : World} (h : Ready w) (hb : Below w.heap.size w w') : Ready w' :=
  ⟨var_below hb h.tab, by obtain ⟨tp, p, e⟩ := h.syn; exact ⟨tp, p, var_below hb e⟩, by obtain ⟨tp, p, e⟩ := h.rng; exact ⟨tp, p, var_below hb e⟩⟩

/-- the bytes l lie from the address a on -/
def Bytes (w : World) (a : Addr) (l : List UInt8) : Prop := ∀ j (hj : j < l.length), w.cell? (a.add j) = some (.int .u8 (l[j].toNat : Int))

/-- strconv.ParseInt(s, 10, 64), its three ways in one -/
theorem lib_parse (s : ByteArray) (w : World) (hR : Ready w) (hs : s.size ≤ 20) :
    Calls Tryd.prog 9 #[.string s, .int .i64 10, .int .i64 64] w fun e w' =>
      ((∃ v, Lib.parseIntB 64 s.data.toList = .ok v ∧ e = .returned (.tuple #[.int .i64 v, .nilIface])) ∨
       ((∀ v, Lib.parseIntB 64 s.data.toList ≠ .ok v) ∧ ∃ n t p, e = .returned (.tuple #[.int .i64 n, .iface t p]))) ∧ Below w.heap.size w w' := by
  cases h : Lib.parseIntB 64 s.data.toList
  · rename_i v
    refine (Any.strconv_ParseInt_10_at64_ok Tryd.laysC174 s (by omega) v h w).mono ?_
    rintro e w' ⟨rfl, hw⟩
    refine ⟨.inl ⟨v, rfl, rfl⟩, ?_⟩
    rcases hw with rfl | ⟨t, rfl⟩
    · exact Below.refl _ _
    · exact Lib.bytesWorld_below _ _ _
  · obtain ⟨tp, p, hv⟩ := hR.syn
    refine (Any.strconv_ParseInt_10_at64_syntax_var Tryd.laysC174 s (by omega) h tp p w hv).mono ?_
    rintro e w' ⟨N, rfl, _, _, hb⟩
    exact ⟨.inr ⟨(fun v e => by cases e), _, _, _, rfl⟩, hb⟩
  · obtain ⟨tp, p, hv⟩ := hR.rng
    refine (Any.strconv_ParseInt_10_at64_range_var Tryd.laysC174 s (by omega) h tp p w hv).mono ?_
    rintro e w' ⟨N, rfl, _, _, hb⟩
    exact ⟨.inr ⟨(fun v e => by cases e), _, _, _, rfl⟩, hb⟩

/-- strconv.FormatInt(n, 10) -/
theorem lib_format (n : Int) (w : World) (hR : Ready w) (h : I64 n) :
    Calls Tryd.prog 10 #[.int .i64 n, .int .i64 10] w fun e w' => e = .returned (.string ⟨(Lib.itoa n).toArray⟩) ∧ Below w.heap.size w w' := by
  refine (Any.strconv_FormatInt_10 Tryd.laysM173 n h.1 h.2 w hR.tab).mono ?_
  rintro e w' ⟨rfl, k, os, rfl⟩
  exact ⟨rfl, Lib.below_grow _ _ (Nat.le_refl _) _ _⟩

theorem pi_short {l : List UInt8} (n : Int) (h : l.length = 0 ∨ 20 < l.length) : PI l n false :=
  ⟨(fun h => by cases h), fun _ v hv e => by have := itoa_len hv; rw [← e] at this; omega⟩

/-- commands.ParseInt at a text that is refused by its length -/
theorem parse_short (p : Option Addr) (n c : Nat) (w : World) (h : n = 0 ∨ 20 < n) (hm : n ≤ 9223372036854775807) :
    Calls Tryd.prog 6 #[.slice p n c] w fun e w' => e = .returned (.tuple #[.int .i64 0, .bool false]) ∧ w' = w := by
  rcases h with rfl | h
  · go_enter Tryd.func6, Tryd.ntmps6
    go_wp2
    go_ret2
    exact ⟨rfl, rfl⟩
  · have h0 : ¬ n = 0 := by omega
    go_enter Tryd.func6, Tryd.ntmps6
    go_wp2
    go_ret2
    exact ⟨rfl, rfl⟩

theorem parse_mid (a : Addr) (n c : Nat) (l : List UInt8) (w : World) (hR : Ready w) (hl : Bytes w a l) (hn : l.length = n) (h1 : 0 < n) (h2 : n ≤ 20) :
    Calls Tryd.prog 6 #[.slice (some a) n c] w fun e w' => ∃ n ok, e = .returned (.tuple #[.int .i64 n, .bool ok]) ∧ PI l n ok ∧ Below w.heap.size w w' := by
  have hconv : (convert 22 9 (.slice (some a) n c)).run Tryd.prog w = .ok (.string ⟨l.toArray⟩) w := by
    rw [← hn]; exact run_convert_bytes_back (P := Tryd.prog) w 22 9 5 a c l Tryd.underlying22 Tryd.underlying5 Tryd.underlying9 hl
  have h0 : ((n : Int) == 0) = false := by simp; omega
  have h20 : decide ((20 : Int) < n) = false := by simp; omega
  have HR : Hid (Ready w) := hR
  have HN : Hid (l.length = n) := hn
  clear hR hn
  go_enter Tryd.func6, Tryd.ntmps6
  go_wp2_with fail
  refine (lib_parse ⟨l.toArray⟩ w HR.out (by show l.toArray.size ≤ 20; rw [List.size_toArray]; have := HN.out; omega)).mono ?_
  rintro e w1 ⟨hp, hb⟩
  rcases hp with ⟨v, hv, rfl⟩ | ⟨hv, q, t, p, rfl⟩
  · have hI : I64 v := by
      have := Lib.parseIntB_bounds hv
      unfold I64; omega
    have HV : Hid (Lib.parseIntB 64 l = .ok v) := hv
    clear hv
    go_wp2_with fail
    refine (lib_format v w1 (HR.out.below hb) hI).mono ?_
    rintro e w2 ⟨rfl, hb2⟩
    go_wp2_with fail
    go_ret2
    refine ⟨_, _, rfl, ?_, hb.trans (hb2.mono hb.size)⟩
    have hP := HV.out
    refine ⟨fun h => ⟨hI, ?_⟩, fun h u hu e => ?_⟩
    · exact (by simpa using h : Lib.itoa v = l).symm
    · have h1 := parse_itoa hu
      rw [← e, hP] at h1
      injection h1 with h1
      subst h1
      rw [← e] at h
      simp at h
  · go_wp2_with fail
    go_ret2
    refine ⟨_, _, rfl, ?_, hb⟩
    exact ⟨(fun h => by cases h), fun _ v hI e => hv v (by rw [e]; exact parse_itoa hI)⟩

/-- commands.ParseInt at every text of at most 2^20 + 1 bytes -/
theorem parse_any (p : Option Addr) (n c : Nat) (l : List UInt8) (w : World) (hR : Ready w) (hp : n = 0 ∨ ∃ a, p = some a ∧ Bytes w a l) (hn : l.length = n) (hm : n ≤ 1048577) :
    Calls Tryd.prog 6 #[.slice p n c] w fun e w' => ∃ m ok, e = .returned (.tuple #[.int .i64 m, .bool ok]) ∧ PI l m ok ∧ Below w.heap.size w w' := by
  by_cases h : n = 0 ∨ 20 < n
  · refine (parse_short p n c w h (by omega)).mono ?_
    rintro e w' ⟨rfl, rfl⟩
    exact ⟨_, _, rfl, pi_short _ (by rw [hn]; exact h), Below.refl _ _⟩
  · rcases hp with hp | ⟨a, rfl, hl⟩
    · exact absurd (Or.inl hp) h
    · exact parse_mid a n c l w hR hl hn (by omega) (by omega)

end Go.Proofs.Qxb6629182aDoor
