/- The walk of the law FnAppendFramesIndependentlyOfDst. -/
import Derived.Test.Qxb6629298aDoorIn
namespace Go.Proofs.Qxb6629298aDoor
open Go.ChangeShapes Go.WideShapes Go.ChangeAt Go.RowKit

/-- what the law's run is told at its start -/
structure Start (w : World) (pd : Option Addr) (nd cd : Nat) (l : List UInt8) (pf : Option Addr) (n cf : Nat) (tg : Nat → Int) (vl : Nat → ByteArray) : Prop where
  dst : IsDst w pd nd cd l
  fs : IsFs w pf n cf tg vl
  tab : Lib.TabIs Tryd.prog w tabName .u64 Lib.pow10Tab

theorem Row.drewN {w : World} {g o n : Nat} {q : Nat → UInt8} (h : Row w g o n q) (m : Nat) : Row (w.drewN m) g o n q := h.below (below_drewN w m)

theorem tab_on {w w' : World} (h : Lib.TabIs Tryd.prog w tabName .u64 Lib.pow10Tab) (hb : Below w.heap.size w w') : Lib.TabIs Tryd.prog w' tabName .u64 Lib.pow10Tab :=
  (Lib.tabBelow_of_tabIs h) w' hb
theorem FieldsAt.below {w wr : World} {gf n : Nat} {tg : Nat → Int} {vl : Nat → ByteArray} (h : FieldsAt w gf n tg vl) (hb : Below w.heap.size w wr) : FieldsAt wr gf n tg vl := by
  obtain ⟨cur, fz, h1, h2⟩ := h.row
  have hlt : gf < w.heap.size := (Array.getElem?_eq_some_iff.1 h1).1
  exact ⟨cur, fz, by rw [hb.block gf hlt]; exact h1, h2⟩
/-- what an owned row that is not empty is -/
theorem St.row {w : World} {B : Nat} {l : List UInt8} {v : Value} {wr : World} (h : St w B l v wr) (N : Nat) (hN : l.length = N) (h0 : 0 < N) :
    ∃ g cap, v = .slice (some ⟨g, 0, none⟩) N cap ∧ N ≤ cap ∧ Row wr g 0 N (fun i => l.getD i 0) := by
  obtain ⟨p, cap, e, hc, hb⟩ := h.shape
  obtain ⟨g, rfl, _, hcell⟩ := hb (by omega)
  refine ⟨g, cap, by rw [e, hN], by omega, fun i hi => ?_⟩
  rw [Nat.zero_add, hcell i (by omega)]
  simp only [List.getD]
  rw [List.getElem?_eq_getElem (by omega)]
  rfl

set_option maxHeartbeats 2000000 in
set_option maxRecDepth 20000 in
theorem frames_walk (pd : Option Addr) (nd cd : Nat) (l : List UInt8) (pf : Option Addr) (n cf : Nat) (tg : Nat → Int) (vl : Nat → ByteArray) (w : World)
    (hS : Start w pd nd cd l pf n cf tg vl) (hd : nd ≤ 9223372036854775807) (hn : n ≤ 9223372036854775807) :
    Calls Tryd.prog 4 #[.slice pd nd cd, .slice pf n cf] w fun e w' => e = .returned (.bool true) ∧ Below w.heap.size w w' := by
  have HS : Hid (Start w pd nd cd l pf n cf tg vl) := hS
  clear hS
  go_enter Tryd.func4, Tryd.ntmps4
  go_wp2_with fail
  refine (bytes13_any pd nd cd pf n cf tg vl w HS.out.fs hd hn).mono ?_
  rintro e w' ⟨⟨b, rfl, hb⟩, rfl⟩
  cases b
  · clear hb
    go_wp2_with fail
    go_ret
    exact ⟨rfl, Below.refl _ _⟩
  · obtain ⟨hd2, hn2, hsz⟩ := hb rfl
    have HZ : Hid (∀ i, i < n → (vl i).size ≤ 1048576) := hsz
    clear hb hsz
    go_wp2_with fail
    go_loop [5, 6] (fun tt ti => ∃ (k : Nat) (T : Int), k ≤ n ∧ ti = .int .i64 k ∧ tt = .int .i64 T ∧ 0 ≤ T ∧ T ≤ 1048576 ∧ Hid (T = (nd : Int) + (sizes vl k : Int))) (fun _ ti => n - (intOf ti).toNat)
    case atStart => exact ⟨0, _, Nat.zero_le _, rfl, rfl, by omega, by omega, by show _ = _ + ((0 : Nat) : Int); omega⟩
    case round =>
      obtain ⟨k, T, hk, rfl, rfl, hT0, hT1, HK⟩ := hrel
      by_cases hlt : k < n
      · obtain ⟨x, hx, hA⟩ := HS.out.fs.get k hlt
        obtain ⟨V, HV⟩ : ∃ V : ByteArray, Hid (V = vl k) := ⟨vl k, Eq.refl (vl k)⟩
        have hc : w.cell? ⟨(x.add (k * 2)).block, (x.add (k * 2)).off + 1, none⟩ = some (.string V) := by rw [HV.out]; exact hA.val k hlt
        have hV1 : V.size ≤ 1048576 := by rw [HV.out]; exact HZ.out k hlt
        have hkn : (k : Int) < (n : Int) := by omega
        clear hA
        subst hx
        by_cases hbig : 1048576 < T + (24 + (V.size : Int))
        · go_wp2_with fail
          go_ret
          exact ⟨rfl, Below.refl _ _⟩
        · go_wp2_with fail
          go_round
          case rel =>
            refine ⟨k + 1, _, by omega, by go_num, rfl, by omega, by omega, ?_⟩
            show _ = (nd : Int) + ((sizes vl k + (24 + (vl k).size) : Nat) : Int)
            rw [HK.out, HV.out]; omega
          case measure => simp [intOf]; omega
      · obtain rfl : k = n := by omega
        have hsz : nd + sizes vl k ≤ 1048576 := by have := HK.out; omega
        clear HK
        have hsz2 : sizes vl k ≤ 100000000 := by omega
        have ht := HS.out.fs.fit
        have hpl := pre_len tg vl k ht hsz2
        have hml := msg_len tg vl k
        go_wp2_with fail
        refine (toFix_any pf k cf tg vl w HS.out.fs (by omega)).mono ?_
        rintro e w1 ⟨gf, rfl, hF1, hb1⟩
        go_wp2_with fail
        refine (clone_any pd nd cd l w1 (HS.out.dst.below hb1) (by omega)).mono ?_
        rintro e w2 ⟨v2, rfl, hS2⟩
        have hb12 : Below w1.heap.size w1 w2 := hS2.bel
        go_wp2_with fail
        refine (append_any w1.heap.size v2 l gf k k tg vl w2 hS2.self (hF1.below hb12) ht hsz2 (by have := HS.out.dst.1; omega) (by omega) ((Lib.tabBelow_of_tabIs (tab_on HS.out.tab hb1)).on hb12)).mono ?_
        rintro e w3 ⟨v3, rfl, hS3⟩
        have hb13 : Below w1.heap.size w1 w3 := hb12.trans hS3.bel
        go_wp2_with fail
        refine (append_any w3.heap.size (.slice none 0 0) [] gf k k tg vl w3 ⟨World.ownsRow_nil _ _ _ _, Below.refl _ _, Lib.OthersKept.refl _ _ _, Nat.le_refl _⟩ ((hF1.below hb12).kept hS3.oth) ht hsz2 (by show 0 ≤ _; omega) (by omega) (Lib.tabBelow_of_tabIs (tab_on (tab_on HS.out.tab hb1) hb13))).mono ?_
        rintro e w4 ⟨v4, rfl, hS4⟩
        have hb34 : Below w3.heap.size w3 w4 := hS4.bel
        have hB4 : Below w.heap.size w w4 := hb1.trans ((hb13.trans (hb34.mono hb13.size)).mono hb1.size)
        -- the two rows
        obtain ⟨M, HM⟩ : ∃ M, Hid ((msg tg vl k).length = M) := ⟨_, Eq.refl (msg tg vl k).length⟩
        have hM1 : 21 ≤ M := by have := HM.out; omega
        have hM2 : M ≤ 2000000 := by have := HM.out; omega
        obtain ⟨g3, c3, hv3, hc3, hr3⟩ := (hS3.old hb34).row (nd + M) (by rw [List.length_append, HS.out.dst.1, HM.out]) (by omega)
        obtain ⟨g4, c4, hv4, hc4, hr4⟩ := hS4.row M (by rw [List.nil_append]; exact HM.out) (by omega)
        rw [List.nil_append] at hr4
        subst hv3 hv4
        have HR : Hid (Row w4 g3 0 (nd + M) (fun i => (l ++ msg tg vl k).getD i 0) ∧ Row w4 g4 0 M (fun i => (msg tg vl k).getD i 0) ∧ Below w.heap.size w w4) := ⟨hr3, hr4, hB4⟩
        clear hr3 hr4 hB4 hS2 hS3 hS4 hb12 hb13 hb34 hF1 hb1 hpl hml ht
        have hne : (((nd + M : Nat) : Int) != (nd : Int) + (M : Int)) = false := by simp
        go_wp2_with fail
        refine (hasAt_dst g3 (nd + M) c3 pd nd cd l (msg tg vl k) w4 (HS.out.dst.below HR.out.2.2) HR.out.1 (by omega) (by omega)).mono ?_
        rintro e w5 ⟨rfl, m5, rfl⟩
        go_wp2_with fail
        refine (hasAt_rows g3 (nd + M) c3 nd g4 M c4 _ _ _ (HR.out.1.drewN m5) (HR.out.2.1.drewN m5) (fun i hi => by have := HS.out.dst.1; rw [← this]; exact getD_right l _ i) (by omega) (by omega)).mono ?_
        rintro e w6 ⟨rfl, m6, rfl⟩
        go_wp2_with fail
        refine (head_any _).mono ?_
        rintro e w7 ⟨gh, ch, rfl, hrh, hb7⟩
        have HR4 : Hid (Row w7 g4 0 M (fun i => (msg tg vl k).getD i 0) ∧ Row w7 gh 0 12 (fun i => headB.getD i 0) ∧ Below w.heap.size w w7) :=
          ⟨(HR.out.2.1.drewN (m5 + m6)).below hb7, hrh, (HR.out.2.2.trans ((below_drewN w4 (m5 + m6)).mono HR.out.2.2.size)).trans (hb7.mono HR.out.2.2.size)⟩
        clear HR hrh hb7
        go_wp2_with fail
        refine (hasAt_rows g4 M c4 0 gh 12 ch _ _ _ HR4.out.1 HR4.out.2.1 (fun i hi => by
          rw [Nat.zero_add]
          show (pre tg vl k ++ _).getD i 0 = _
          rw [getD_left _ _ i (by have := HM.out; have := msg_len tg vl k; omega)]
          exact getD_left headB _ i hi) (by omega) (by omega)).mono ?_
        rintro e w8 ⟨rfl, m8, rfl⟩
        obtain ⟨E, hE⟩ : ∃ E, M = E + 7 := ⟨M - 7, by omega⟩
        subst hE
        have hpE : (pre tg vl k).length = E := by have := HM.out; have := msg_len tg vl k; omega
        have HT : Hid (Trail (w7.drewN m8) g4 0 E (fun i => ((((pre tg vl k) ++ trail (sumL (pre tg vl k) % 256)).getD i 0).toNat : Int)) ∧ Below w.heap.size w w7) := by
          refine ⟨?_, HR4.out.2.2⟩
          have h1 := HR4.out.1.drewN m8
          rw [← hpE] at h1 ⊢
          exact trail_of _ _ rfl h1
        clear HR4 hpE
        have h21 : ¬ (E : Int) + 7 < 12 + 2 + 7 := by omega
        go_wp2_with fail
        refine (trailer_ok g4 0 E c4 _ _ (by omega) HT.out.1).mono ?_
        rintro e w9 ⟨rfl, m9, rfl⟩
        go_wp2_with fail
        go_ret
        exact ⟨rfl, HT.out.2.trans ((below_drewN w7 _).mono HT.out.2.size)⟩

end Go.Proofs.Qxb6629298aDoor
