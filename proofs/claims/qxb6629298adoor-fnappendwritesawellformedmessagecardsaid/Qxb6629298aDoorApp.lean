/- fix.Append, walked. -/
import Derived.Test.Qxb6629298aDoorOwn
import Derived.Test.Qxb6629298aDoorMsg
import Derived.Lib.Hide
namespace Go.Proofs.Qxb6629298aDoor
open Go.ChangeShapes Go.WideShapes Go.ChangeAt Go.RowKit

/-- the fields, as they lie in a row of the program's own -/
structure FieldsAt (w : World) (gf n : Nat) (tg : Nat → Int) (vl : Nat → ByteArray) : Prop where
  row : ∃ cur fz, w.heap[gf]? = some (.cells cur 37 fz) ∧ ∀ i, i < n → cur[i * 2]? = some (.int .i64 (tg i)) ∧ cur[i * 2 + 1]? = some (.string (vl i))

theorem FieldsAt.cell {w : World} {gf n : Nat} {tg : Nat → Int} {vl : Nat → ByteArray} (h : FieldsAt w gf n tg vl) (i : Nat) (hi : i < n) :
    w.cell? ⟨gf, i * 2, none⟩ = some (.int .i64 (tg i)) ∧ w.cell? ⟨gf, i * 2 + 1, none⟩ = some (.string (vl i)) := by
  obtain ⟨cur, fz, h1, h2⟩ := h.row
  obtain ⟨e1, e2⟩ := h2 i hi
  constructor
  · simp [World.cell?, h1, e1]
  · simp [World.cell?, h1, e2]
theorem FieldsAt.kept {w wr : World} {gf n : Nat} {tg : Nat → Int} {vl : Nat → ByteArray} (h : FieldsAt w gf n tg vl) (ho : Lib.OthersKept 5 none w wr) : FieldsAt wr gf n tg vl := by
  obtain ⟨cur, fz, h1, h2⟩ := h.row
  exact ⟨cur, fz, ho gf _ h1 (by simp) (fun c fz e => by cases e), h2⟩

theorem digits_same (n : Int) (w : World) (hn : n ≤ 9223372036854775807) :
    Calls Tryd.prog 14 #[.int .i64 n] w fun e w' => e = .returned (.int .i64 (digs n : Int)) ∧ w' = w :=
  (digits_any n w hn).mono fun _ _ ⟨h1, h2⟩ => ⟨h1, h2.symm⟩

/-- an append whose run is known, as a step of the walk -/
theorem wpList_append_run {P : Program} {w : World} {ops : Array Oper} {rest : List Oper} {o : Oper} {a : Act} {Q : Exit → Act → World → Prop} (hgd : o.guard = none) (sl x : Operand) (t u : TypeId)
    (ho : o.op = .call { callee := .builtin .append, args := #[sl, x], argTypes := #[t, u] }) (v xv v2 : Value) (w2 : World) (hs : a.eval sl = v) (hx : a.eval x = xv)
    (hr : (Builtin.append_ #[t, u] o.type #[v, xv]).run P w = .ok v2 w2) (h : wpList P ops Q rest (a.put o.dst v2) w2) : wpList P ops Q (o :: rest) a w := by
  refine wpList_plain hgd fun K hK => ?_
  unfold Oper.wp execOp
  simp only [ho, resolve, invoke, builtin, Sem.run_bind, Sem.run_pure, Result.andThen_ok, List.map_toArray, List.map_cons, List.map_nil, hs, hx, hr]
  exact hK _ _ h

theorem sumL_append (a b : List UInt8) : sumL (a ++ b) = sumL a + sumL b := by
  induction a with
  | nil => simp [sumL]
  | cons c a ih => simp only [List.cons_append, sumL, ih]; omega
theorem sumQ_getD (l : List UInt8) (k : Nat) (hk : k ≤ l.length) : sumQ (fun i => l.getD i 0) k = sumL (l.take k) := by
  induction k with
  | zero => simp [sumL]; rfl
  | succ k ih =>
    show sumQ (fun i => l.getD i 0) k + (l.getD k 0).toNat = _
    rw [ih (by omega), List.take_succ_eq_append_getElem (by omega), sumL_append]
    simp [sumL, List.getD, List.getElem?_eq_getElem (show k < l.length by omega)]
theorem trail_cells (s : Nat) (C : Int) (hs : s < 256) (hC : C = (s : Int)) :
    (#[Value.int .u8 49, Value.int .u8 48, Value.int .u8 61, Value.int .u8 (48 + C / 100), Value.int .u8 (48 + C / 10 % 10), Value.int .u8 (48 + C % 10), Value.int .u8 1] : Array Value).toList = Lib.byteCells (trail s) := by
  have h1 : (UInt8.ofNat (48 + s / 100)).toNat = 48 + s / 100 := by rw [UInt8.toNat_ofNat']; omega
  have h2 : (UInt8.ofNat (48 + s / 10 % 10)).toNat = 48 + s / 10 % 10 := by rw [UInt8.toNat_ofNat']; omega
  have h3 : (UInt8.ofNat (48 + s % 10)).toNat = 48 + s % 10 := by rw [UInt8.toNat_ofNat']; omega
  unfold trail Lib.byteCells
  simp only [List.map_cons, List.map_nil, h1, h2, h3]
  subst hC
  have e1 : ((48 + s / 100 : Nat) : Int) = 48 + (s : Int) / 100 := by omega
  have e2 : ((48 + s / 10 % 10 : Nat) : Int) = 48 + (s : Int) / 10 % 10 := by omega
  have e3 : ((48 + s % 10 : Nat) : Int) = 48 + (s : Int) % 10 := by omega
  rw [e1, e2, e3]
  rfl

theorem St.self {w : World} {B : Nat} {l : List UInt8} {v : Value} {wr : World} (h : St w B l v wr) : St wr B l v wr := ⟨h.own, Below.refl _ _, Lib.OthersKept.refl _ _ _, h.size⟩
theorem St.trans {w : World} {B : Nat} {l l2 : List UInt8} {v v2 : Value} {wr w2 : World} (h : St w B l v wr) (k : St wr B l2 v2 w2) : St w B l2 v2 w2 := ⟨k.own, h.bel.trans k.bel, h.oth.trans k.oth, h.hB⟩
theorem St.cast {w : World} {B : Nat} {l l2 : List UInt8} {v : Value} {wr : World} (h : St w B l v wr) (e : l = l2) : St w B l2 v wr := e ▸ h

set_option maxHeartbeats 1000000 in
set_option maxRecDepth 20000 in
theorem append_any (B : Nat) (v : Value) (l : List UInt8) (gf n c : Nat) (tg : Nat → Int) (vl : Nat → ByteArray) (w : World)
    (hS : St w B l v w) (hF : FieldsAt w gf n tg vl) (ht : ∀ i, i < n → -9223372036854775808 ≤ tg i ∧ tg i ≤ 9223372036854775807) (hsz : sizes vl n ≤ 100000000) (hl : l.length ≤ 100000000) (hn : n ≤ 100000000)
    (hT : Lib.TabBelow Tryd.prog B w tabName .u64 Lib.pow10Tab) :
    Calls Tryd.prog 7 #[v, .slice (some ⟨gf, 0, none⟩) n c] w fun e w' => ∃ v', e = .returned v' ∧ St w B (l ++ msg tg vl n) v' w' := by
  have HI : Hid (FieldsAt w gf n tg vl ∧ (∀ i, i < n → -9223372036854775808 ≤ tg i ∧ tg i ≤ 9223372036854775807) ∧ sizes vl n ≤ 100000000 ∧ Lib.TabBelow Tryd.prog B w tabName .u64 Lib.pow10Tab) := ⟨hF, ht, hsz, hT⟩
  obtain ⟨p, cap, rfl, _, _⟩ := hS.shape
  obtain ⟨l0, HL0⟩ : ∃ l0, Hid (l.length = l0) := ⟨l.length, Eq.refl l.length⟩
  rw [HL0.out] at hS hl ⊢
  have HS0 : Hid (St w B l (.slice p l0 cap) w) := hS
  clear hF ht hsz hT hS
  go_enter Tryd.func7, Tryd.ntmps7
  go_wp2
  go_loopw [5, 14] (fun tn ti wr => ∃ (k : Nat) (S : Int), k ≤ n ∧ ti = .int .i64 k ∧ tn = .int .i64 S ∧ 0 ≤ S ∧ S ≤ 100000000 ∧ Hid (S = (bodyN tg vl k : Int) ∧ St w B l (.slice p l0 cap) wr)) (fun _ ti _ => n - (intOf ti).toNat)
  case atStart => exact ⟨0, 0, Nat.zero_le _, rfl, rfl, by omega, by omega, rfl, HS0.out⟩
  case round =>
    obtain ⟨k, S, hk, rfl, rfl, hS0, hS1, HK⟩ := hrel
    by_cases hlt : k < n
    · obtain ⟨T, HTg⟩ : ∃ T : Int, Hid (T = tg k) := ⟨tg k, Eq.refl (tg k)⟩
      obtain ⟨V, HVl⟩ : ∃ V : ByteArray, Hid (V = vl k) := ⟨vl k, Eq.refl (vl k)⟩
      have hc1 : wr.cell? ⟨gf, k * 2, none⟩ = some (.int .i64 T) := by rw [HTg.out]; exact ((HI.out.1.kept HK.out.2.oth).cell k hlt).1
      have hc2 : wr.cell? ⟨gf, k * 2 + 1, none⟩ = some (.string V) := by rw [HVl.out]; exact ((HI.out.1.kept HK.out.2.oth).cell k hlt).2
      have hkn : (k : Int) < (n : Int) := by omega
      have hT1 : T ≤ 9223372036854775807 := by rw [HTg.out]; exact (HI.out.2.1 k hlt).2
      obtain ⟨D, HDg⟩ : ∃ D : Int, Hid (D = (digs T : Int)) := ⟨(digs T : Int), Eq.refl (digs T : Int)⟩
      have hD0 : 1 ≤ D := by rw [HDg.out]; have := digs_le T hT1; omega
      have hD1 : D ≤ 19 := by rw [HDg.out]; have := digs_le T hT1; omega
      have HN : Hid (S + (D + 1 + (V.size : Int) + 1) = (bodyN tg vl (k + 1) : Int) ∧ bodyN tg vl (k + 1) ≤ 100000000) := by
        refine ⟨?_, ?_⟩
        · show _ = ((bodyN tg vl k + (digs (tg k) + 1 + (vl k).size + 1) : Nat) : Int)
          rw [HK.out.1, HDg.out, HTg.out, HVl.out]; omega
        · have h1 := bodyN_le tg vl n (k + 1) (by omega) HI.out.2.1
          have h2 := sizes_mono vl (k + 1) n (by omega)
          have := HI.out.2.2.1; omega
      have hsz : (V.size : Int) ≤ 100000000 := by have := HN.out; omega
      have hdig : ∀ w, Calls Tryd.prog 14 #[.int .i64 T] w fun e w' => e = .returned (.int .i64 D) ∧ w' = w := fun w => by rw [HDg.out]; exact digits_same T w hT1
      have HDig : Hid (∀ w, Calls Tryd.prog 14 #[.int .i64 T] w fun e w' => e = .returned (.int .i64 D) ∧ w' = w) := hdig
      clear hdig
      go_wp2_with fail
      go_quiet ((go_at_call 14; exact Calls.quiet_of_same (HDig.out _)))
      go_wp2_with fail
      go_roundw
      case rel => exact ⟨k + 1, _, by omega, by go_num, rfl, by omega, by have := HN.out; omega, HN.out.1, (HK.out.2.alloc _).old (below_drewN _ _)⟩
      case measure => simp [intOf]; omega
    · obtain rfl : k = n := by omega
      have hlS : S ≤ 9223372036854775807 := by omega
      obtain ⟨v1, w1, hr1, hS1'⟩ := HK.out.2.str ⟨#[56, 61, 70, 73, 88, 46, 52, 46, 52, 1, 57, 61]⟩ (by show l.length + 12 ≤ _; have := HL0.out; omega)
      have HS1 : Hid (St w B (l ++ headB) v1 w1) := hS1'
      have HSv : Hid (S = (bodyN tg vl k : Int)) := HK.out.1
      have HL1 : Hid ((l ++ headB).length ≤ 100000020) := by show _ ≤ _; rw [List.length_append]; show l.length + 12 ≤ _; have := HL0.out; omega
      clear hS1' HK
      go_wp2_with (at_builtin; refine wpList_append_run rfl _ _ 22 9 rfl _ _ v1 w1 rfl rfl hr1 ?_)
      refine (HS1.out.int S (by omega) hlS (by have := HL1.out; omega) HI.out.2.2.2).mono ?_
      rintro e w2 ⟨v2, rfl, hS2⟩
      have hi := (itoa_len S (by omega) hlS).2
      obtain ⟨v3, w3, hr3, hS3⟩ := hS2.bytes [1] #[.int .u8 1] 1 rfl rfl (by rw [List.length_append]; have := HL1.out; omega)
      have HS3 : Hid (St w B (l ++ (headB ++ (Lib.itoa S ++ [1]))) v3 w3) := hS3.cast (by simp [List.append_assoc])
      clear hS2 hS3 HS1 hi hr1
      go_wp2_with (at_builtin; refine wpList_append_run rfl _ _ 22 22 rfl _ _ v3 w3 rfl rfl hr3 ?_)
      have HLs : Hid (∀ j, j ≤ k → (l ++ (headB ++ (Lib.itoa S ++ 1 :: bodyB tg vl j))).length ≤ 300000000) := fun j hj => by
        have h1 := bodyB_len tg vl k j hj HI.out.2.1
        have h2 := sizes_mono vl j k hj
        have h3 := HI.out.2.2.1
        have h4 := (itoa_len S (by omega) hlS).2
        have h5 := HL0.out
        simp only [List.length_append, List.length_cons]
        show l.length + (12 + _) ≤ _
        omega
      clear hr3
      go_loopw [0, 42] (fun tv ti wr => ∃ (j : Nat), j ≤ k ∧ ti = .int .i64 j ∧ Hid (St w B (l ++ (headB ++ (Lib.itoa S ++ 1 :: bodyB tg vl j))) tv wr)) (fun _ ti _ => k - (intOf ti).toNat)
      case atStart => exact ⟨0, Nat.zero_le _, rfl, HS3.out⟩
      case round =>
        obtain ⟨j, hj, rfl, HK⟩ := hrel
        by_cases hlt : j < k
        · obtain ⟨T, HTg⟩ : ∃ T : Int, Hid (T = tg j) := ⟨tg j, Eq.refl (tg j)⟩
          obtain ⟨V, HVl⟩ : ∃ V : ByteArray, Hid (V = vl j) := ⟨vl j, Eq.refl (vl j)⟩
          have hc1 : wr.cell? ⟨gf, j * 2, none⟩ = some (.int .i64 T) := by rw [HTg.out]; exact ((HI.out.1.kept HK.out.oth).cell j hlt).1
          have hc2 : wr.cell? ⟨gf, j * 2 + 1, none⟩ = some (.string V) := by rw [HVl.out]; exact ((HI.out.1.kept HK.out.oth).cell j hlt).2
          have hkn : (j : Int) < (k : Int) := by omega
          have hT0 : -9223372036854775808 ≤ T := by rw [HTg.out]; exact (HI.out.2.1 j hlt).1
          have hT1 : T ≤ 9223372036854775807 := by rw [HTg.out]; exact (HI.out.2.1 j hlt).2
          have hV : V.size ≤ 100000000 := by
            have h1 := sizes_mono vl (j + 1) k (by omega)
            have h2 : sizes vl j + (24 + (vl j).size) ≤ sizes vl k := h1
            have h3 := HI.out.2.2.1
            rw [HVl.out]; omega
          have hLj := HLs.out j hj
          have hi := (itoa_len T hT0 hT1).2
          have hS0 := HK.out.alloc (.cells #[Value.int .i64 T, Value.string V] 37)
          go_wp2_with fail
          refine (hS0.self.int T hT0 hT1 (by omega) (HI.out.2.2.2.on hS0.bel)).mono ?_
          rintro e w4 ⟨v4, rfl, hS4⟩
          obtain ⟨v5, w5, hr5, hS5⟩ := hS4.bytes [61] #[.int .u8 61] 1 rfl rfl (by rw [List.length_append]; omega)
          have hcV : w5.cell? ⟨wr.heap.size, 1, none⟩ = some (.string V) := by
            have h1 : (wr.alloc (.cells #[Value.int .i64 T, Value.string V] 37)).heap[wr.heap.size]? = some (.cells #[Value.int .i64 T, Value.string V] 37 (0, 0)) := by
              show (wr.heap.push _)[wr.heap.size]? = _; simp
            have h2 := hS5.oth wr.heap.size _ h1 (by simp) (fun c fz e => by cases e)
            simp [World.cell?, h2]
          obtain ⟨v6, w6, hr6, hS6⟩ := hS5.str V (by rw [List.length_append, List.length_append, List.length_singleton]; omega)
          obtain ⟨v7, w7, hr7, hS7⟩ := hS6.bytes [1] #[.int .u8 1] 1 rfl rfl (by rw [List.length_append, List.length_append, List.length_append, List.length_singleton, size_eq]; omega)
          have HN : Hid (St w B (l ++ (headB ++ (Lib.itoa S ++ 1 :: bodyB tg vl (j + 1)))) v7 w7) := by
            refine (hS0.trans hS7).cast ?_
            show _ = l ++ (headB ++ (Lib.itoa S ++ 1 :: (bodyB tg vl j ++ fieldB (tg j) (vl j))))
            unfold fieldB
            rw [← HTg.out, ← HVl.out]
            simp [List.append_assoc]
          clear hS0 hS4 hS5 hS6 hS7 HK hLj
          go_wp2_with (at_builtin; refine wpList_append_run rfl _ _ 22 22 rfl _ _ v5 w5 rfl rfl hr5 ?_; refine Hid.out ?_)
          refine Lib.hid ?_
          clear hr5
          go_wp2_with (at_builtin; refine wpList_append_run rfl _ _ 22 9 rfl _ _ v6 w6 rfl rfl hr6 ?_; refine Hid.out ?_)
          refine Lib.hid ?_
          clear hr6
          go_wp2_with (at_builtin; refine wpList_append_run rfl _ _ 22 22 rfl _ _ v7 w7 rfl rfl hr7 ?_)
          go_roundw
          case rel => exact ⟨j + 1, by omega, by go_num, HN.out⟩
          case measure => simp [intOf]; omega
        · obtain rfl : j = k := by omega
          have hSp : St w B (l ++ pre tg vl j) u0 wr := by
            have := HK.out
            rw [HSv.out] at this
            exact this
          have hpl := pre_len tg vl j HI.out.2.1 HI.out.2.2.1
          obtain ⟨M, HM⟩ : ∃ M, Hid ((pre tg vl j).length = M) := ⟨(pre tg vl j).length, Eq.refl (pre tg vl j).length⟩
          have hM1 : 14 ≤ M := by have := HM.out; omega
          have hM2 : M ≤ 200000000 := by have := HM.out; have := HI.out.2.2.1; omega
          have hlen : (l ++ pre tg vl j).length = l0 + M := by rw [List.length_append, HL0.out, HM.out]
          obtain ⟨p2, cap2, hu0, hcap2, hbytes⟩ := hSp.shape
          obtain ⟨g, rfl, hBg, hcells⟩ := hbytes (by omega)
          rw [hlen] at hu0 hcap2
          have hrow : Row wr g l0 M (fun i => (pre tg vl j).getD i 0) := fun i hi => by
            have h1 := hcells (l0 + i) (by omega)
            rw [h1]
            have h2 : (l ++ pre tg vl j)[l0 + i]'(by omega) = (pre tg vl j).getD i 0 := by
              rw [List.getElem_append_right (by have := HL0.out; omega)]
              have := HL0.out; have := HM.out
              simp only [List.getD]
              rw [List.getElem?_eq_getElem (by omega)]
              simp only [Option.getD_some]
              congr 1
              omega
            rw [h2]
          have HSp : Hid (St w B (l ++ pre tg vl j) (.slice (some ⟨g, 0, none⟩) (l0 + M) cap2) wr) := by rw [hu0] at hSp; exact hSp
          have HRow : Hid (Row wr g l0 M (fun i => (pre tg vl j).getD i 0)) := hrow
          subst hu0
          clear hSp hrow hcells hbytes hlen HK hpl
          have hs1 : l0 < cap2 := by omega
          have hs2 : ¬ cap2 = l0 := by omega
          go_wp2_with fail
          refine (checksum_any g l0 M (cap2 - l0) _ wr (by omega) (by omega) HRow.out).mono ?_
          rintro e w4 ⟨rfl, hb4⟩
          have hsum : (sumQ (fun i => (pre tg vl j).getD i 0) M : Int) % 256 = ((sumL (pre tg vl j) % 256 : Nat) : Int) := by
            rw [sumQ_getD _ _ (by have := HM.out; omega), List.take_of_length_le (by have := HM.out; omega)]
            omega
          rw [hsum]
          obtain ⟨C, HC⟩ : ∃ C : Int, Hid (C = ((sumL (pre tg vl j) % 256 : Nat) : Int)) := ⟨_, Eq.refl ((sumL (pre tg vl j) % 256 : Nat) : Int)⟩
          have hC0 : 0 ≤ C := by rw [HC.out]; omega
          have hC1 : C ≤ 255 := by rw [HC.out]; omega
          have hS4 := HSp.out.old hb4
          obtain ⟨v5, w5, hr5, hS5⟩ := hS4.bytes (trail (sumL (pre tg vl j) % 256)) #[.int .u8 49, .int .u8 48, .int .u8 61, .int .u8 (48 + C / 100), .int .u8 (48 + C / 10 % 10), .int .u8 (48 + C % 10), .int .u8 1] 7 (trail_cells _ C (by omega) HC.out) rfl
            (by rw [List.length_append]; have := HL0.out; have := HM.out; omega)
          have HF : Hid (St w B (l ++ msg tg vl j) v5 w5) := hS5.cast (by unfold msg; rw [List.append_assoc])
          rw [← HC.out]
          clear hsum hS4 hS5 hb4 HSp HRow
          go_wp2_with (at_builtin; refine wpList_append_run rfl _ _ 22 22 rfl _ _ v5 w5 rfl rfl hr5 ?_)
          go_ret
          exact ⟨_, rfl, HF.out⟩

end Go.Proofs.Qxb6629298aDoor
