/- The walk of the law FnAppendWritesAWellFormedMessage. -/
import Derived.Test.Qxb6629298aDoorPos
namespace Go.Proofs.Qxb6629298aDoor
open Go.ChangeShapes Go.WideShapes Go.ChangeAt Go.RowKit

/-- two rows of bytes, the one inside the other, from base o on -/
theorem hasAt_base (g o nb cb p g2 n c : Nat) (q q2 : Nat → UInt8) (w : World) (h1 : Row w g o nb q) (h2 : Row w g2 0 n q2) (he : ∀ i, i < n → q (p + i) = q2 i) (hp : p + n ≤ nb) (hm : nb ≤ 1000000000) :
    Calls Tryd.prog 9 #[.slice (some ⟨g, o, none⟩) nb cb, .int .i64 p, .slice (some ⟨g2, 0, none⟩) n c] w fun e w' => e = .returned (.bool true) ∧ ∃ m, w' = w.drewN m := by
  refine hasAt_some ⟨g, o, none⟩ ⟨g2, 0, none⟩ nb cb p n c w hp hm fun k hk => ⟨((q2 k).toNat : Int), ?_, ?_⟩
  · have := h1 (p + k) (by omega)
    rw [show (⟨g, o, none⟩ : Addr).add (p + k) = ⟨g, o + (p + k), none⟩ by unfold Addr.add; split <;> simp_all, this, he k hk]
  · have := h2 k hk
    rw [Nat.zero_add] at this
    rw [add_lit0, this]

theorem cell_on {w w' : World} {p : Addr} {v : Value} (hp : w.cell? p = some v) (hb : Below w.heap.size w w') : w'.cell? p = some v := by
  have hlt : p.block < w.heap.size := by
    rcases Nat.lt_or_ge p.block w.heap.size with h' | h'
    · exact h'
    · simp [World.cell?, Array.getElem?_eq_none h'] at hp
  rw [hb.cell hlt]; exact hp
/-- the message's row behind the bytes that came in -/
theorem Row.tail {w : World} {g nd M : Nat} {l r : List UInt8} (h : Row w g 0 (nd + M) (fun i => (l ++ r).getD i 0)) (hl : l.length = nd) : Row w g nd M (fun i => r.getD i 0) := by
  intro i hi
  have := h (nd + i) (by omega)
  rw [Nat.zero_add] at this
  rw [this]
  show some (Value.int .u8 (((l ++ r).getD (nd + i) 0).toNat : Int)) = _
  rw [← hl, getD_right]

set_option maxHeartbeats 2000000 in
set_option maxRecDepth 20000 in
theorem well_walk (pd : Option Addr) (nd cd : Nat) (l : List UInt8) (pf : Option Addr) (n cf : Nat) (tg : Nat → Int) (vl : Nat → ByteArray) (w : World)
    (hS : Start w pd nd cd l pf n cf tg vl) (hd : nd ≤ 9223372036854775807) (hn : n ≤ 9223372036854775807) :
    Calls Tryd.prog 3 #[.slice pd nd cd, .slice pf n cf] w fun e w' => e = .returned (.bool true) ∧ Below w.heap.size w w' := by
  have HS : Hid (Start w pd nd cd l pf n cf tg vl) := hS
  clear hS
  go_enter Tryd.func3, Tryd.ntmps3
  go_wp2_with fail
  refine (bytes5_any pd nd cd pf n cf tg vl w HS.out.fs hd hn).mono ?_
  rintro e w' ⟨⟨b, rfl, hb⟩, rfl⟩
  cases b
  · clear hb
    go_wp2_with fail
    go_ret
    exact ⟨rfl, Below.refl _ _⟩
  · obtain ⟨hd2, hn2, hsz⟩ := hb rfl
    have HZ : Hid (∀ i, i < n → (vl i).size ≤ 1048576) := hsz
    clear hb hsz
    go_wp2_with fail
    go_loop [5, 6] (fun tt ti => ∃ (k : Nat) (T : Int), k ≤ n ∧ ti = .int .i64 k ∧ tt = .int .i64 T ∧ 0 ≤ T ∧ T ≤ 1048576 ∧ Hid (T = (nd : Int) + (sizes vl k : Int))) (fun _ ti => n - (intOf ti).toNat)
    case atStart => exact ⟨0, _, Nat.zero_le _, rfl, rfl, by omega, by omega, by show _ = _ + ((0 : Nat) : Int); omega⟩
    case round =>
      obtain ⟨k, T, hk, rfl, rfl, hT0, hT1, HK⟩ := hrel
      by_cases hlt : k < n
      · obtain ⟨x, hx, hA⟩ := HS.out.fs.get k hlt
        obtain ⟨V, HV⟩ : ∃ V : ByteArray, Hid (V = vl k) := ⟨vl k, Eq.refl (vl k)⟩
        have hc : w.cell? ⟨(x.add (k * 2)).block, (x.add (k * 2)).off + 1, none⟩ = some (.string V) := by rw [HV.out]; exact hA.val k hlt
        have hV1 : V.size ≤ 1048576 := by rw [HV.out]; exact HZ.out k hlt
        have hkn : (k : Int) < (n : Int) := by omega
        clear hA
        subst hx
        by_cases hbig : 1048576 < T + (24 + (V.size : Int))
        · go_wp2_with fail
          go_ret
          exact ⟨rfl, Below.refl _ _⟩
        · go_wp2_with fail
          go_round
          case rel =>
            refine ⟨k + 1, _, by omega, by go_num, rfl, by omega, by omega, ?_⟩
            show _ = (nd : Int) + ((sizes vl k + (24 + (vl k).size) : Nat) : Int)
            rw [HK.out, HV.out]; omega
          case measure => simp [intOf]; omega
      · obtain rfl : k = n := by omega
        have hsz : nd + sizes vl k ≤ 1048576 := by have := HK.out; omega
        clear HK
        have hsz2 : sizes vl k ≤ 100000000 := by omega
        go_wp2_with fail
        go_loop [7] (fun ti => ∃ i : Nat, i ≤ k ∧ ti = .int .i64 i ∧ Hid (∀ j, j < i → 0 ≤ tg j)) (fun ti => k - (intOf ti).toNat)
        case atStart => exact ⟨0, Nat.zero_le _, rfl, fun j hj => by omega⟩
        case round =>
          obtain ⟨i, hi, rfl, HT⟩ := hrel
          by_cases hlt2 : i < k
          · obtain ⟨x, hx, hA⟩ := HS.out.fs.get i hlt2
            obtain ⟨t, Ht⟩ : ∃ t : Int, Hid (t = tg i) := ⟨tg i, Eq.refl (tg i)⟩
            have hc : w.cell? (x.add (i * 2)) = some (.int .i64 t) := by rw [Ht.out]; exact hA.tag i hlt2
            clear hA
            subst hx
            by_cases hneg : t < 0
            · go_wp2_with fail
              go_ret
              exact ⟨rfl, Below.refl _ _⟩
            · go_wp2_with fail
              go_round
              case rel =>
                refine ⟨i + 1, by omega, by go_num, fun j hj => ?_⟩
                by_cases e : j = i
                · subst e; rw [← Ht.out]; omega
                · exact HT.out j (by omega)
              case measure => simp [intOf]; omega
          · obtain rfl : i = k := by omega
            have ht := HS.out.fs.fit
            have hpl := pre_len tg vl i ht hsz2
            have hml := msg_len tg vl i
            go_wp2_with fail
            refine (clone_any pd nd cd l w HS.out.dst (by omega)).mono ?_
            rintro e w1 ⟨v1, rfl, hS1⟩
            have hb1 : Below w.heap.size w w1 := hS1.bel
            go_wp2_with fail
            refine (toFix_any pf i cf tg vl w1 (HS.out.fs.below hb1) (by omega)).mono ?_
            rintro e w2 ⟨gf, rfl, hF2, hb12⟩
            have hb2 : Below w.heap.size w w2 := hb1.trans (hb12.mono hb1.size)
            go_wp2_with fail
            refine (append_any w.heap.size v1 l gf i i tg vl w2 (hS1.old hb12).self hF2 ht hsz2 (by have := HS.out.dst.1; omega) (by omega) ((Lib.tabBelow_of_tabIs HS.out.tab).on hb2)).mono ?_
            rintro e w3 ⟨v3, rfl, hS3⟩
            have hb3 : Below w.heap.size w w3 := hb2.trans hS3.bel
            obtain ⟨E, HE⟩ : ∃ E, Hid ((pre tg vl i).length = E) := ⟨_, Eq.refl (pre tg vl i).length⟩
            have hE1 : 14 ≤ E := by have := HE.out; omega
            have hE2 : E ≤ 2000000 := by have := HE.out; omega
            obtain ⟨g3, c3, hv3, hc3, hr3⟩ := hS3.row (nd + (E + 7)) (by rw [List.length_append, HS.out.dst.1, hml, HE.out]) (by omega)
            subst hv3
            have HR : Hid (Row w3 g3 0 (nd + (E + 7)) (fun i_1 => (l ++ msg tg vl i).getD i_1 0) ∧ Below w.heap.size w w3) := ⟨hr3, hb3⟩
            clear hr3 hb3 hS1 hS3 hb1 hb12 hb2 hF2 hpl hml
            go_wp2_with fail
            refine (hasAt_dst g3 (nd + (E + 7)) c3 pd nd cd l (msg tg vl i) w3 (HS.out.dst.below HR.out.2) HR.out.1 (by omega) (by omega)).mono ?_
            rintro e w4 ⟨rfl, m4, rfl⟩
            have hc3a : nd < c3 := by omega
            have hc3b : ¬ c3 = nd := by omega
            go_wp2_with fail
            refine (head_any _).mono ?_
            rintro e w5 ⟨gh, ch, rfl, hrh, hb5⟩
            obtain ⟨q, Hq⟩ : ∃ q : Nat → UInt8, Hid (q = fun j => (msg tg vl i).getD j 0) := ⟨_, Eq.refl (fun j => (msg tg vl i).getD j 0)⟩
            have HR5 : Hid (Row w5 g3 nd (E + 7) q ∧ Row w5 gh 0 12 (fun j => headB.getD j 0) ∧ Below w.heap.size w w5) := by
              refine ⟨?_, hrh, (HR.out.2.trans ((below_drewN w3 m4).mono HR.out.2.size)).trans (hb5.mono HR.out.2.size)⟩
              rw [Hq.out]
              exact ((HR.out.1.drewN m4).tail HS.out.dst.1).below hb5
            clear HR hrh hb5
            go_wp2_with fail
            refine (hasAt_base g3 nd (E + 7) (c3 - nd) 0 gh 12 ch _ _ _ HR5.out.1 HR5.out.2.1 (fun j hj => by
              rw [Nat.zero_add, Hq.out]
              show (pre tg vl i ++ _).getD j 0 = _
              rw [getD_left _ _ j (by have := HE.out; omega)]
              exact getD_left headB _ j hj) (by omega) (by omega)).mono ?_
            rintro e w6 ⟨rfl, m6, hw6⟩
            obtain ⟨D, d, N, HF⟩ : ∃ D d N, Hid (Form tg vl i q D d N E) := by
              rw [Hq.out, ← HE.out]
              exact ⟨_, _, _, form_msg tg vl i HT.out ht⟩
            have HW : Hid (Row w6 g3 nd (E + 7) q ∧ Below w.heap.size w w6) := by
              rw [hw6]
              exact ⟨HR5.out.1.drewN m6, HR5.out.2.2.trans ((below_drewN w5 m6).mono HR5.out.2.2.size)⟩
            clear HR5 hw6
            have hN1 : N ≤ 1048576 := by have := HF.out.small; omega
            have hd1 : 1 ≤ d := HF.out.num.pos
            have hsum : E = 13 + d + N := HF.out.size
            subst hsum
            go_wp2_with fail
            go_loop [13, 14] (fun tq tL => ∃ (Q : Nat) (L : Int), 12 ≤ Q ∧ Q ≤ 12 + d ∧ tq = .int .i64 Q ∧ tL = .int .i64 L ∧ 0 ≤ L ∧ L ≤ 1048576 ∧ Hid (L = (val (D.take (Q - 12)) : Int))) (fun tq _ => 12 + d - (intOf tq).toNat)
            case atStart => exact ⟨12, 0, by omega, by omega, rfl, rfl, by omega, by omega, rfl⟩
            case round =>
              obtain ⟨Q, L, hQ1, hQ2, rfl, rfl, hL0, hL1, HL⟩ := hrel
              have hcell := HW.out.1 Q (by omega)
              have hQm : (Q : Int) < 13 + (d : Int) + (N : Int) + 7 := by omega
              by_cases hltd : Q < 12 + d
              · obtain ⟨C, HC⟩ : ∃ C : Int, Hid (C = ((q Q).toNat : Int)) := ⟨_, Eq.refl ((q Q).toNat : Int)⟩
                rw [← HC.out] at hcell
                have hqd : q Q = D.getD (Q - 12) 0 := by have := HF.out.dig (Q - 12) (by omega); rwa [show 12 + (Q - 12) = Q by omega] at this
                have hdg := HF.out.num.dig (Q - 12) (by omega)
                have hst := HF.out.num.step (Q - 12) (by omega)
                have hle := HF.out.num.le (Q - 12 + 1)
                rw [← hqd] at hdg hst
                have hC0 : 48 ≤ C := by have := HC.out; omega
                have hC1 : C ≤ 57 := by have := HC.out; omega
                have HL2 : Hid (L * 10 + (C - 48) = (val (D.take (Q + 1 - 12)) : Int) ∧ (val (D.take (Q + 1 - 12))) ≤ 1048576) := by
                  rw [show Q + 1 - 12 = Q - 12 + 1 by omega]
                  refine ⟨?_, by omega⟩
                  rw [hst, HL.out, HC.out]; omega
                clear hqd hdg hst hle
                go_wp2_with fail
                go_round
                case rel => exact ⟨Q + 1, _, by omega, by omega, by go_num, rfl, by omega, by have := HL2.out; omega, HL2.out.1⟩
                case measure => simp [intOf]; omega
              · obtain rfl : Q = 12 + d := by omega
                have hLN : L = (N : Int) := by rw [HL.out, show 12 + d - 12 = d by omega, HF.out.num.full]
                subst hLN
                rw [HF.out.soh] at hcell
                have hcell1 : w6.cell? ⟨g3, nd + (12 + d), none⟩ = some (.int .u8 1) := hcell
                clear hcell HL
                obtain ⟨C, HC⟩ : ∃ C : Int, Hid (C = ((q 12).toNat : Int)) := ⟨_, Eq.refl ((q 12).toNat : Int)⟩
                have hcell2 := HW.out.1 12 (by omega)
                rw [← HC.out] at hcell2
                have hone : C = 48 → d = 1 := fun h => HF.out.num.one (by
                  have := HF.out.dig 0 (by omega)
                  rw [← this]
                  have := HC.out
                  show (q 12).toNat = 48
                  omega)
                have hne1 : (((12 + d : Nat) : Int) == 12) = false := by simp; omega
                have hpick : (C == 48) = false ∨ ((C == 48) = true ∧ ¬ (1 < 12 + (d : Int) - 12)) := by
                  by_cases hC : C = 48
                  · exact .inr ⟨by simp [hC], by have := hone hC; omega⟩
                  · exact .inl (by simp [hC])
                clear hone
                rcases hpick with hCb | ⟨hCb, hgt⟩
                all_goals
                  go_wp2_with fail
                  go_loopw [18, 19] (fun tp ti wr => ∃ f p : Nat, f ≤ i ∧ ti = .int .i64 f ∧ tp = .int .i64 p ∧ p ≤ 13 + d + N ∧ Hid (p = at_ tg vl d f ∧ Below w6.heap.size w6 wr)) (fun _ ti _ => i - (intOf ti).toNat)
                  case atStart => exact ⟨0, 13 + d, Nat.zero_le _, rfl, by go_num, by omega, HF.out.start.symm, Below.refl _ _⟩
                  case round =>
                    obtain ⟨f, p, hf, rfl, rfl, hp, HP⟩ := hrel
                    by_cases hlf : f < i
                    · obtain ⟨T, HTt⟩ : ∃ T : Int, Hid (T = tg f) := ⟨tg f, Eq.refl (tg f)⟩
                      obtain ⟨V, HV⟩ : ∃ V : ByteArray, Hid (V = vl f) := ⟨vl f, Eq.refl (vl f)⟩
                      have hbw : Below w.heap.size w wr := HW.out.2.trans (HP.out.2.mono HW.out.2.size)
                      obtain ⟨x, hx, hA⟩ := (HS.out.fs.below hbw).get f hlf
                      have hc1 : wr.cell? (x.add (f * 2)) = some (.int .i64 T) := by rw [HTt.out]; exact hA.tag f hlf
                      have hc2 : wr.cell? ⟨(x.add (f * 2)).block, (x.add (f * 2)).off + 1, none⟩ = some (.string V) := by rw [HV.out]; exact hA.val f hlf
                      have hV1 : V.size ≤ 1048576 := by rw [HV.out]; exact HZ.out f hlf
                      have hT0 : 0 ≤ T := by rw [HTt.out]; exact HT.out f hlf
                      have hT1 : T ≤ 9223372036854775807 := by rw [HTt.out]; exact (ht f hlf).2
                      have hfi : (f : Int) < (i : Int) := by omega
                      clear hA hbw
                      subst hx
                      go_wp2_with fail
                      obtain ⟨TL, HTL⟩ : ∃ TL, Hid (Lib.itoa T = TL) := ⟨_, Eq.refl (Lib.itoa T)⟩
                      obtain ⟨tl, Htl⟩ : ∃ tl, Hid (TL.length = tl) := ⟨_, Eq.refl TL.length⟩
                      obtain ⟨p2, HI⟩ : ∃ p2, Hid (p2 = at_ tg vl d (f + 1) ∧ InPlace q (13 + d + N) TL tl V p p2) := by
                        refine ⟨_, rfl, ?_⟩
                        have := HF.out.field f hlf
                        rw [HP.out.1, ← Htl.out, ← HTL.out, HTt.out, HV.out]
                        exact this
                      have hnx : p2 = p + tl + 1 + V.size + 1 := HI.out.2.nxt
                      have hft : p2 ≤ 13 + d + N := HI.out.2.fit
                      refine (itoa_any T wr hT0 hT1 TL tl HTL.out Htl.out).mono ?_
                      rintro e w8 ⟨gt, rfl, hrt, hb8⟩
                      have HW8 : Hid (Row w8 g3 nd (13 + d + N + 7) q ∧ Row w8 gt 0 tl (fun j => TL.getD j 0) ∧ Below w6.heap.size w6 w8 ∧ Below wr.heap.size wr w8) :=
                        ⟨(HW.out.1.below HP.out.2).below hb8, hrt, HP.out.2.trans (hb8.mono HP.out.2.size), hb8⟩
                      clear hrt hb8
                      go_wp2_with fail
                      refine (hasAt_base g3 nd (13 + d + N) (c3 - nd) p gt tl tl _ _ _ (fun j hj => HW8.out.1 j (by omega)) HW8.out.2.1 HI.out.2.tag (by omega) (by omega)).mono ?_
                      rintro e w9 ⟨rfl, m9, hw9⟩
                      have hb89 : Below w8.heap.size w8 w9 := by rw [hw9]; exact below_drewN w8 m9
                      have HW9 : Hid (Row w9 g3 nd (13 + d + N + 7) q ∧ Below w6.heap.size w6 w9) := ⟨HW8.out.1.below hb89, HW8.out.2.2.1.trans (hb89.mono HW8.out.2.2.1.size)⟩
                      have hc3' : w9.cell? ⟨(x.add (f * 2)).block, (x.add (f * 2)).off + 1, none⟩ = some (.string V) := cell_on (cell_on hc2 HW8.out.2.2.2) hb89
                      have h61 : w9.cell? ⟨g3, nd + (p + tl), none⟩ = some (.int .u8 61) := by
                        have := HW9.out.1 (p + tl) (by omega)
                        rw [HI.out.2.eq] at this
                        exact this
                      clear hw9 hb89 HW8 hc2
                      have hq1 : (p : Int) + (tl : Int) < 13 + (d : Int) + (N : Int) := by omega
                      have hq2 : (V.size : Int) ≤ 13 + (d : Int) + (N : Int) - ((p : Int) + (tl : Int) + 1) := by omega
                      go_wp2_with fail
                      go_loopw [22] (fun tj wv => ∃ j m : Nat, j ≤ V.size ∧ tj = .int .i64 j ∧ wv = w9.drewN m) (fun tj _ => V.size - (intOf tj).toNat)
                      case atStart => exact ⟨0, 0, Nat.zero_le _, rfl, rfl⟩
                      case round =>
                        obtain ⟨j, m, hj, rfl, rfl⟩ := hrel
                        by_cases hlj : j < V.size
                        · have hcj : w9.cell? ⟨g3, nd + (p + tl + 1 + j), none⟩ = some (.int .u8 (V[j].toNat : Int)) := by
                            have := HW9.out.1 (p + tl + 1 + j) (by omega)
                            rw [HI.out.2.val j hlj] at this
                            exact this
                          have hj1 : (j : Int) < (V.size : Int) := by omega
                          have hj2 : (0 : Int) ≤ (p : Int) + (tl : Int) + 1 + (j : Int) := by omega
                          have hj3 : (p : Int) + (tl : Int) + 1 + (j : Int) < 13 + (d : Int) + (N : Int) := by omega
                          go_wp2_with fail
                          go_quiet (fail)
                          go_wp2_with fail
                          go_roundw
                          case rel => exact ⟨j + 1, m + _, by omega, by go_num, rfl⟩
                          case measure => simp [intOf]; omega
                        · obtain rfl : j = V.size := by omega
                          have h1 : w9.cell? ⟨g3, nd + (p + tl + 1 + V.size), none⟩ = some (.int .u8 1) := by
                            have := HW9.out.1 (p + tl + 1 + V.size) (by omega)
                            rw [HI.out.2.soh] at this
                            exact this
                          have hj2 : (0 : Int) ≤ (p : Int) + (tl : Int) + 1 + (V.size : Int) := by omega
                          have hj3 : (p : Int) + (tl : Int) + 1 + (V.size : Int) < 13 + (d : Int) + (N : Int) := by omega
                          go_wp2_with fail
                          go_roundw
                          case rel =>
                            refine ⟨f + 1, p2, by omega, by go_num, ?_, hft, HI.out.1, HW9.out.2.trans ((below_drewN w9 _).mono HW9.out.2.size)⟩
                            rw [hnx]; go_num
                          case measure => simp [intOf]; omega
                    · obtain rfl : f = i := by omega
                      have hpE : p = 13 + d + N := by rw [HP.out.1]; exact HF.out.stop
                      subst hpE
                      have HTr : Hid (Trail wr g3 nd (13 + d + N) (fun j => ((((pre tg vl f) ++ trail (sumL (pre tg vl f) % 256)).getD j 0).toNat : Int))) := by
                        have h1 := HW.out.1.below HP.out.2
                        rw [Hq.out] at h1
                        rw [← HE.out] at h1 ⊢
                        exact trail_of _ _ rfl h1
                      go_wp2_with fail
                      refine (trailer_ok g3 nd (13 + d + N) (c3 - nd) _ _ (by omega) HTr.out).mono ?_
                      rintro e w9 ⟨rfl, m9, rfl⟩
                      go_wp2_with fail
                      go_ret
                      have h6 : Below w.heap.size w wr := HW.out.2.trans (HP.out.2.mono HW.out.2.size)
                      exact ⟨rfl, h6.trans ((below_drewN wr m9).mono h6.size)⟩

end Go.Proofs.Qxb6629298aDoor
