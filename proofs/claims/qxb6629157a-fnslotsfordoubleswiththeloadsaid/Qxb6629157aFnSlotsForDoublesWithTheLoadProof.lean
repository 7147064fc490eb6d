/- The proof of 'Rows.FnSlotsForDoublesWithTheLoadSaid': the walk is ours; the rest is the guide's shell at this function's number and types. -/
import Derived.Test.Qxb6629157aRows
import Derived.WalkKit
import Derived.ProofKit
import Derived.OpenShut
import Derived.ShutString
import Derived.Test.Qxb6629157aSlots
namespace Go.Proofs.Qxb6629157a.fnSlotsForDoublesWithTheLoad
open Go.ChangeShapes Go.WideShapes Go.ChangeAt Go.RowKit
open Go.ChangeMaps (open_string shut_string)
set_option linter.unusedVariables false

theorem own : ownKnob Try.prog.godebug = none := by kernel_rfl

/-! ### THE WALK -/
theorem walk_out (a0 : Int) (h : a0 < 0 ∨ 576460752303423487 < a0) (w : World) :
    Calls Try.prog 4 #[.int .i64 a0] w fun e w' => e = .returned (.bool true) ∧ w' = w := by
  rcases h with h | h
  · go_enter Try.func4, Try.ntmps4
    go_wp2
    go_ret
    exact ⟨rfl, rfl⟩
  · have h' : ¬ a0 < 0 := by omega
    go_enter Try.func4, Try.ntmps4
    go_wp2
    go_ret
    exact ⟨rfl, rfl⟩

theorem walk_zero (w : World) :
    Calls Try.prog 4 #[.int .i64 0] w fun e w' => e = .returned (.bool true) ∧ w' = w := by
  go_enter Try.func4, Try.ntmps4
  go_wp2_with fail
  refine (zz_zero _).mono ?_
  rintro e w' ⟨rfl, rfl⟩
  go_wp2_with fail
  go_ret
  exact ⟨rfl, rfl⟩

theorem walk_in (a0 : Int) (k l : Nat) (h1 : 1 ≤ a0) (h2 : a0 ≤ 576460752303423487) (hk : k ≤ 57) (hf : Fit a0 k) (hg : Fit (2 * a0) l)
    (hl : sz l ≤ 2305843009213693952) (hsm : 2 * a0 ≤ 6 → sz l = sz k) (hbg : ¬ 2 * a0 ≤ 6 → sz l = 2 * sz k) (w : World) :
    Calls Try.prog 4 #[.int .i64 a0] w fun e w' => e = .returned (.bool true) ∧ w' = w := by
  have hmax : sz k ≤ 1152921504606846976 := by have := sz_mono hk; rwa [sz57] at this
  have hge := sz_ge k
  have hand := sz_and k hk
  obtain ⟨m, hm⟩ := sz_8 k
  have hup := hf.up
  have ht : ¬ sz k / 4 * 3 < a0 := by omega
  have hF : Hid (Fit a0 k) := hf
  have hG : Hid (Fit (2 * a0) l) := hg
  have hn0 : ¬ a0 = 0 := by omega
  clear hm hf hup hg
  by_cases h6 : 2 * a0 ≤ 6
  · have HE : Hid (sz l = sz k) := hsm h6
    clear hsm hbg
    go_enter Try.func4, Try.ntmps4
    go_wp2_with fail
    refine (zz_any a0 k _ h1 (by omega) hF.out (by omega)).mono ?_
    rintro e w' ⟨rfl, rfl⟩
    go_wp2_with fail
    refine (zz_any (2 * a0) l _ (by omega) (by omega) hG.out (by omega)).mono ?_
    rintro e w' ⟨rfl, rfl⟩
    rw [HE.out]
    go_wp2_with fail
    go_ret
    exact ⟨rfl, rfl⟩
  · have HE : Hid (sz l = 2 * sz k) := hbg h6
    clear hsm hbg
    go_enter Try.func4, Try.ntmps4
    go_wp2_with fail
    refine (zz_any a0 k _ h1 (by omega) hF.out (by omega)).mono ?_
    rintro e w' ⟨rfl, rfl⟩
    go_wp2_with fail
    refine (zz_any (2 * a0) l _ (by omega) (by omega) hG.out (by omega)).mono ?_
    rintro e w' ⟨rfl, rfl⟩
    rw [HE.out]
    go_wp2_with fail
    go_ret
    exact ⟨rfl, rfl⟩

theorem walk (a0 : Int) (w0 : (Lit.int .i64 a0).wf = true) (w : World) :
    Calls Try.prog 4 #[.int .i64 a0] w fun e w' => e = .returned (.bool true) ∧ Grown w w' := by
  have key : Calls Try.prog 4 #[.int .i64 a0] w fun e w' => e = .returned (.bool true) ∧ w' = w := by
    by_cases h : a0 < 0 ∨ 576460752303423487 < a0
    · exact walk_out a0 h w
    · by_cases hz : a0 = 0
      · subst hz; exact walk_zero w
      · obtain ⟨k, hk, hf⟩ := fit_some a0 (by omega)
        have hmax : sz k ≤ 1152921504606846976 := by have := sz_mono hk; rwa [sz57] at this
        by_cases h6 : 2 * a0 ≤ 6
        · obtain rfl := fit_small a0 k hf h6
          refine walk_in a0 0 0 (by omega) (by omega) hk hf ⟨by rw [sz_zero]; omega, fun j hj => absurd hj (Nat.not_lt_zero _)⟩ (by omega) (fun _ => rfl) (fun h => absurd h6 h) w
        · exact walk_in a0 k (k + 1) (by omega) (by omega) hk hf (fit_double a0 k hf (by omega)) (by rw [sz_succ]; omega) (fun h => absurd h h6) (fun _ => sz_succ k) w
  exact key.mono fun e w' ⟨he, hw⟩ => ⟨he, by rw [hw]; exact Grown.refl _⟩

/-! ### THE ROW's STEP: WRITTEN OUT: LEAVE IT -/
set_option maxRecDepth 100000 in
theorem lifted (os : Os) (started : os.Started) (H : Type) (enc : TypeId × Value → H) :
    ReturnsInHanded {} Try.checked os 4 .any (Rows.fnSlotsForDoublesWithTheLoadSpec.pre6 enc Try.prog Try.f4 Rows.fnSlotsForDoublesWithTheLoadRow.domain false) (Rows.fnSlotsForDoublesWithTheLoadSpec.post enc Try.prog Try.f4 false true false false) := by
  refine returnsInHanded_of_change (C := Try.checked) own started (by kernel_rfl) Try.func4
    (ChangeSpec.witness6 (enc := enc) (C := Try.checked) false ⟨#[], #[.int .i64 0], []⟩ 8 (by kernel_rfl) (by kernel_rfl) (by kernel_rfl) (by kernel_rfl)) ?_
  intro W base args ds gs before hval0 hW hcnd _
  have hval : ∀ (j : Nat) t v, Try.f4.params[j]? = some t → args[j]? = some v → Value.okWide Try.prog W .any base t v := hval0
  have hW' := hW
  obtain ⟨p, q, hA0, hV, rfl, hfz, hnd⟩ := hW
  have hA : DataW.TrodAll enc Try.prog W 0 (fun _ => true) true Try.f4.params.toList args.toList ds p := hA0
  rw [Try.params4] at hA hval
  obtain ⟨v0, vs0, d0, ds0, p0, q0, hargs, rfl, rfl, h0, r0⟩ := trodAll_cons hA
  obtain ⟨rfl, rfl, rfl⟩ := trodAll_nil r0
  obtain rfl : args = #[v0] := by cases args; simp_all
  obtain ⟨rfl, rfl⟩ := trodVars_none hV
  obtain ⟨a0, rfl, rfl, rfl, w0⟩ := open_int Try.underlying3 (hval 0 3 v0 rfl rfl) h0
  clear hA0 hval0
  simp only [List.append_nil] at hW'
  refine (walk a0 w0 W).mono fun e W' ⟨he, hg⟩ => ?_
  subst he
  exact ⟨_, rfl, post_of_same (pa := []) (pv := []) hW' (fun _ _ _ => (trodAll_cons_mk (shut_bool Try.underlying4 _) trodAll_mk0)) (fun sp _ => (trodAll_cons_mk (shut_int Try.underlying3 w0) trodAll_mk0)) (fun _ _ => rfl) rfl
    (hg.frame _) hg.2.1 (ok_one (by kernel_rfl) rfl (okWide_bool_mk Try.underlying4 _))⟩

theorem over : Rows.fnSlotsForDoublesWithTheLoadRow.holds Try.pinned (OpenSpec.ofChange Rows.fnSlotsForDoublesWithTheLoadSpec) :=
  OpenClaim.holds_of_wide 4 Try.f4 rfl rfl rfl rfl rfl rfl rfl ⟨rfl, rfl, rfl, rfl, rfl⟩ rfl rfl rfl rfl rfl (by kernel_rfl) Try.func4 (by kernel_rfl)
    (of_decide_eq_true (by kernel_rfl)) (by unfold Func.isWrapper; first | (rw [if_pos (by decide +kernel)]; kernel_rfl) | (rw [if_neg (by decide +kernel)]; exact ⟨rfl, rfl⟩))
    (fun os started H enc _ => lifted os started H enc)

/-- ████ THE STATEMENT ████ -/
theorem proved : Rows.FnSlotsForDoublesWithTheLoadSaid :=
  over
end Go.Proofs.Qxb6629157a.fnSlotsForDoublesWithTheLoad
