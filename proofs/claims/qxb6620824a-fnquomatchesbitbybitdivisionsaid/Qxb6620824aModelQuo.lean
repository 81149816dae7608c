/-
  modelQuo: the walk of the bit by bit division.
-/
import Derived.Test.Qxb6620824aBitSmall
import Derived.Test.Qxb6620824aQuo
set_option linter.unusedVariables false
namespace Go.Proofs.Qxb6620824a
open Go.RowKit Plain

/-- A callee wrote z's row alone. -/
theorem Duo.stepZ {bx bz : Nat} {w wr w' : World} {X Z Z' : List Int} (h : Duo bx bz w wr X Z) (hb : bx < bz) (S : Step bz bz wr w' wr.heap.size Z') : Duo bx bz w w' X Z' :=
  ⟨h.bX.below S.below hb, S.blk, h.below.trans (S.below.mono (Nat.le_of_lt hb)), S.size.trans h.size, h.wX, S.word⟩
theorem Duo.rowZ {bx bz : Nat} {w wr : World} {X Z : List Int} (h : Duo bx bz w wr X Z) : Step bz bz wr wr wr.heap.size Z := ⟨h.bZ, Below.refl _ _, rfl, h.wZ⟩

theorem wrap_pow (p : Nat) (h : p < 64) : IntKind.u64.wrap (2 ^ p) = 2 ^ p := by
  have h1 : (2 : Int) ^ p < 2 ^ 64 := Int.pow_lt_pow_of_lt (by decide) h
  have h2 := two_pos p
  rw [show (2 : Int) ^ 64 = 18446744073709551616 by decide] at h1
  rw [IntKind.wrap_u64]
  exact Int.emod_eq_of_lt (Int.le_of_lt h2) h1

theorem duo_fresh (w : World) (n m : Nat) : Duo w.heap.size (w.heap.size + 1) ((w.alloc (.cells (madeCells #[Value.int .u64 0] n) 39)).alloc (.cells (madeCells #[Value.int .u64 0] m) 39)) ((w.alloc (.cells (madeCells #[Value.int .u64 0] n) 39)).alloc (.cells (madeCells #[Value.int .u64 0] m) 39)) (List.replicate n 0) (List.replicate m 0) := by
  refine ⟨(Blk.made w n).alloc _, ?_, Below.refl _ _, rfl, words_replicate n, words_replicate m⟩
  have h := Blk.made (w.alloc (.cells (madeCells #[Value.int .u64 0] n) 39)) m
  rw [show (w.alloc (.cells (madeCells #[Value.int .u64 0] n) 39)).heap.size = w.heap.size + 1 by simp] at h
  exact h

set_option maxRecDepth 100000 in
set_option maxHeartbeats 4000000 in
theorem modelQuo {w : World} {ax ay : Option Addr} {nx ny : Nat} {x y : List Int} (cx cy : Nat)
    (Sx : Sl w.heap.size w ax nx x) (Sy : Sl w.heap.size w ay ny y) (hx : nx ≤ 1000) (hy : ny ≤ 1000) (hV : 0 < val y) :
    Calls Try.prog 10 #[.slice ax nx cx, .slice ay ny cy] w fun e w' => ∃ m L, e = .returned (.slice (some ⟨w.heap.size, 0, none⟩) m nx) ∧ m ≤ L.length ∧ val (L.take m) = val x / val y ∧ Norm (L.take m) ∧ Blk w' w.heap.size L ∧ Words L ∧ Below w.heap.size w w' := by
  have HXl : Hid (x.length = nx) := Sx.len
  have HYl : Hid (y.length = ny) := Sy.len
  have hmk := make_run nx (by omega)
  have hmk2 := make_run (ny + 1) (by omega)
  rw [show ((ny + 1 : Nat) : Int) = (ny : Int) + 1 by omega] at hmk2
  have DF := duo_fresh w nx (ny + 1)
  have Q0 : QI x y (List.replicate nx 0) (List.replicate (ny + 1) 0) nx 0 := by
    have h := QI.start Sx.word (ny + 1) hV
    rw [HXl.out] at h
    exact h
  have B0 : Hid (Below w.heap.size w ((w.alloc (.cells (madeCells #[Value.int .u64 0] nx) 39)).alloc (.cells (madeCells #[Value.int .u64 0] (ny + 1)) 39))) := ((Below.refl _ w).alloc (Nat.le_refl _) _).alloc (by simp) _
  have HV : Hid (0 < val y) := hV
  have xw := Sx.word
  have yw := Sy.word
  clear hV
  go_enter Try.func10, Try.ntmps10
  go_wp2
  clear hmk hmk2
  obtain ⟨w2, hw2⟩ : ∃ w2, w2 = (w.alloc (.cells (madeCells #[Value.int .u64 0] nx) 39)).alloc (.cells (madeCells #[Value.int .u64 0] (ny + 1)) 39) := ⟨_, rfl⟩
  obtain ⟨bq, hbq⟩ : ∃ bq, bq = w.heap.size := ⟨_, rfl⟩
  obtain ⟨br, hbr⟩ : ∃ br, br = bq + 1 := ⟨_, rfl⟩
  have hlt : bq < br := by omega
  have Sx2 : Sl bq w2 ax nx x := by rw [hw2, hbq]; exact Sx.below B0.out
  have Sy2 : Sl bq w2 ay ny y := by rw [hw2, hbq]; exact Sy.below B0.out
  have B2 : Hid (Below bq w w2) := by show Below _ _ _; rw [hw2, hbq]; exact B0.out
  rw [← hw2, ← hbq, ← hbr] at DF ⊢
  have Hbq : Hid (bq = w.heap.size) := hbq
  clear hw2 hbq hbr B0 Sx Sy
  go_loopw [7] (fun i wr => ∃ (t : Nat) (Q R : List Int), t ≤ nx ∧ i = .int .i64 ((t : Int) - 1) ∧ Q.length = nx ∧ R.length = ny + 1 ∧ QI x y Q R t 0 ∧ Duo bq br w2 wr Q R) (fun i _ => (intOf i + 1).toNat)
  case atStart => exact ⟨nx, _, _, Nat.le_refl _, by go_num, List.length_replicate, List.length_replicate, Q0, DF⟩
  case round =>
    clear DF Q0
    obtain ⟨t, Q, R, ht, rfl, hQ, hR, I, D⟩ := hrel
    obtain ⟨w3, hw3⟩ : ∃ w3, w3 = wr := ⟨_, rfl⟩
    subst hw3
    have HQ : Hid (Q.length = nx) := hQ
    have HR : Hid (R.length = ny + 1) := hR
    by_cases h0 : 0 < t
    · obtain ⟨s, rfl⟩ : ∃ s, t = s + 1 := ⟨t - 1, by omega⟩
      have hs : ((s + 1 : Nat) : Int) - 1 = (s : Int) := by omega
      rw [hs]
      have HI : Hid _ := I.word
      have HD : Hid _ := D
      have hsn : s < nx := by omega
      clear hs I D hQ hR
      go_wp2
      go_loopw [8] (fun b wr => ∃ (m : Nat) (Q R : List Int), m ≤ 64 ∧ b = .int .i64 ((m : Int) - 1) ∧ Q.length = nx ∧ R.length = ny + 1 ∧ QI x y Q R s m ∧ Duo bq br w2 wr Q R) (fun i _ => (intOf i + 1).toNat)
      case atStart => exact ⟨64, Q, R, Nat.le_refl _, by go_num, HQ.out, HR.out, HI.out, HD.out⟩
      case round =>
        clear HI HD HQ HR
        obtain ⟨m, Q, R, hm, rfl, hQ, hR, I, D⟩ := hrel
        have HQ : Hid (Q.length = nx) := hQ
        have HR : Hid (R.length = ny + 1) := hR
        by_cases hm0 : 0 < m
        · obtain ⟨p, rfl⟩ : ∃ p, m = p + 1 := ⟨m - 1, by omega⟩
          have hp : ((p + 1 : Nat) : Int) - 1 = (p : Int) := by omega
          rw [hp]
          have hp64 : p < 64 := by omega
          have wk := nth_word xw s
          obtain ⟨bt, hbt⟩ : ∃ bt, bt = (nth x s / 2 ^ p) % 2 := ⟨_, rfl⟩
          have eb : bits .and .u64 (nth x s / 2 ^ p) 1 = bt := by rw [hbt]; exact bit_bits _ p wk
          have bt0 : 0 ≤ bt := by omega
          have bt1 : bt ≤ 1 := by omega
          have Hbt : Hid _ := hbt
          have FT : Hid (2 * val R + bt < pw (ny + 1)) := by
            have h := I.fits yw bt1
            rw [HYl.out] at h
            exact h
          have HI : Hid _ := I
          have HD : Hid _ := D
          have Hx3 := Sx2.below D.below
          obtain ⟨bxx, ox, rfl, hbx, hcx⟩ := Hx3.at hsn
          have c1 := hcx s hsn
          have i1 : (s : Int) < (nx : Int) := by omega
          obtain ⟨wk0, wk1⟩ := wk
          clear hcx Hx3 I D hQ hR hbt hp
          go_wp2_with fail
          refine (shiftInBit (ny + 1) bt bt0 bt1 (by omega) HR.out HD.out.rowZ FT.out).mono ?_
          rintro e w4 ⟨R1, rfl, hl1, hv1, S1⟩
          have D1 := HD.out.stepZ hlt S1
          have HL1 : Hid _ := hl1
          have HV1 : Hid _ := hv1
          rw [Hbt.out] at hv1
          have HW1 : Hid _ := hv1
          have HD1 : Hid _ := D1
          have Sy4 := Sy2.below D1.below
          clear hl1 hv1 S1 D1 c1 eb
          by_cases hge : val y ≤ val R1
          · have hdec : decide (val y ≤ val R1) = true := decide_eq_true hge
            have HG : Hid _ := hge
            clear hge
            go_wp2_with fail
            refine (atLeast (ny + 1) cy (by omega) HL1.out HD1.out.bZ HD1.out.wZ Sy4).mono ?_
            rintro e w5 ⟨rfl, q5, hw⟩
            rw [hdec]
            have D5 : Hid (Duo bq br w2 w5 Q R1) := by show Duo _ _ _ _ _ _; rw [hw]; exact HD1.out.drewN q5
            have Sy5 : Sl bq w5 ay ny y := by rw [hw]; exact Sy4.drewN q5
            clear hw hdec
            go_wp2_with fail
            refine (subtractFrom (m := ny) (ny + 1) cy (by omega) (by omega) HL1.out D5.out.rowZ (Sy5.mono (Nat.le_of_lt hlt)) HG.out).mono ?_
            rintro e w6 ⟨R2, rfl, hl2, hv2, S2⟩
            have D6 : Hid _ := D5.out.stepZ hlt S2
            have HL2 : Hid _ := hl2
            have hlt2 : val R2 < val y := by
              have := HI.out.lt
              rw [hv2, HV1.out]
              omega
            have IN : Hid _ := HI.out.yes xw (by rw [HXl.out]; exact hsn) hp64 (by rw [HQ.out, HXl.out]) (by rw [hv2, HW1.out]) hlt2
            obtain ⟨qb, qw⟩ := HI.out.bits HD1.out.wX hp64
            have ew : IntKind.u64.wrap (2 ^ p) = 2 ^ p := wrap_pow p hp64
            have d1 := D6.out.bX.cell (k := s) (by rw [HQ.out]; exact hsn)
            have d2 := D6.out.bX.free s
            obtain ⟨v, hv⟩ : ∃ v, v = nth Q s + 2 ^ p := ⟨_, rfl⟩
            rw [← hv] at qb qw IN
            have SN := D6.out.setX hlt s qw
            clear hl2 hv2 S2 hlt2 hv Sy4 Sy5
            go_wp2
            go_roundw
            case rel => exact ⟨p, _, R2, by omega, by go_num, by rw [List.length_set]; exact HQ.out, HL2.out, IN.out, SN⟩
            case measure => simp [intOf]
          · have hdec : decide (val y ≤ val R1) = false := decide_eq_false hge
            have IN : Hid _ := HI.out.no xw (by rw [HXl.out]; exact hsn) hp64 HW1.out (by omega)
            clear hge
            go_wp2_with fail
            refine (atLeast (ny + 1) cy (by omega) HL1.out HD1.out.bZ HD1.out.wZ Sy4).mono ?_
            rintro e w5 ⟨rfl, q5, hw⟩
            rw [hdec]
            have D5 : Hid (Duo bq br w2 w5 Q R1) := by show Duo _ _ _ _ _ _; rw [hw]; exact HD1.out.drewN q5
            clear hw hdec
            go_wp2
            go_roundw
            case rel => exact ⟨p, Q, R1, by omega, by go_num, HQ.out, HL1.out, IN.out, D5.out⟩
            case measure => simp [intOf]
        · obtain rfl : m = 0 := by omega
          have HI : Hid _ := I
          have HD : Hid _ := D
          clear I D hQ hR
          go_wp2
          go_roundw
          case rel => exact ⟨s, Q, R, by omega, by go_num, HQ.out, HR.out, HI.out, HD.out⟩
          case measure => simp [intOf]
    · obtain rfl : t = 0 := by omega
      have HV2 : Hid _ := I.done (val_bound D.wZ).1
      have HI : Hid _ := I
      have HD : Hid _ := D
      clear I D hQ hR
      go_wp2_with (go_at_call 27; refine (trimWords nx nx HD.out.bX (Nat.le_refl _) (by rw [HQ.out]; exact Nat.le_refl _) (by omega)).mono ?_; rintro e w' ⟨m, rfl, hw, T⟩; rw [hw]; clear hw; have HT : Hid _ := T; clear T)
      go_ret
      rw [← Hbq.out]
      refine ⟨m, Q, rfl, by rw [HQ.out]; exact HT.out.le, ?_, norm_take Q m (by rw [HQ.out]; exact HT.out.le) HT.out.top, HD.out.bX, HD.out.wX, B2.out.trans HD.out.below⟩
      rw [pre_take, HT.out.pre, pre_more Q nx (by rw [HQ.out]; exact Nat.le_refl _)]
      exact HV2.out

end Go.Proofs.Qxb6620824a
