/-
  nat.estimate AT THIS DUMP: the quotient word of (u2:u1:u0) by (v1:v0), at most the largest word.
-/
import Derived.Test.Qxb6620824aDiv
import Derived.Test.Qxb6620824aMath3
set_option linter.unusedVariables false
namespace Go.Proofs.Qxb6620824a
open Go.RowKit Plain

theorem aS_small (x y : Int) (h0 : 0 ≤ x + y) (h : x + y < 18446744073709551616) : aS x y 0 = x + y := by unfold aS; omega
theorem aC_small (x y : Int) (h0 : 0 ≤ x + y) (h : x + y < 18446744073709551616) : aC x y 0 = 0 := by unfold aC; omega
theorem aC_great (x y : Int) (h : 18446744073709551616 ≤ x + y) (h' : x + y < 36893488147419103232) : aC x y 0 = 1 := by unfold aC; omega
theorem aS_word (x y c : Int) : 0 ≤ aS x y c ∧ aS x y c < 18446744073709551616 := by unfold aS; omega

theorem est_round_rel (u2 u1 u0 v1 v0 q r : Int) (c : Bool) (hp : 0 < v1) (h0 : Word u0) (hv1 : Word v1) (hv0 : Word v0) (H : Est u2 u1 u0 v1 v0 q r) (h : r * 18446744073709551616 + u0 < q * v0) (hc : (aC r v1 0 == 0) = c) :
    0 ≤ q - 1 ∧ 0 ≤ aS r v1 0 ∧ aS r v1 0 < 18446744073709551616 ∧ (c = true → Est u2 u1 u0 v1 v0 (q - 1) (aS r v1 0)) ∧ (c = false → q - 1 = est u2 u1 u0 v1 v0) := by
  obtain ⟨s1, s2, s3, s4⟩ := est_step _ _ _ _ _ _ _ h0 hp hv0.1 H h
  have r0 := H.r0; have r1 := H.r1
  obtain ⟨c1, d1⟩ := hv1
  refine ⟨s3, (aS_word _ _ _).1, (aS_word _ _ _).2, fun hb => ?_, fun hb => ?_⟩
  · have hlt : r + v1 < 18446744073709551616 := by
      refine Int.not_le.1 fun hge => ?_
      rw [aC_great r v1 hge (by omega)] at hc
      subst hb
      simp at hc
    rw [aS_small r v1 (by omega) hlt]
    exact ⟨s1, s2, s3, s4, by omega, hlt⟩
  · have hge : 18446744073709551616 ≤ r + v1 := by
      refine Int.not_lt.1 fun hlt => ?_
      rw [aC_small r v1 (by omega) hlt] at hc
      subst hb
      simp at hc
    exact est_is _ _ _ _ _ _ (r + v1) hp hv0.1 s1 s2 s4 (est_big _ _ _ _ hv0 s3 s4 h0.1 hge)

theorem test_yes (x y r u : Int) (h : mH x y < r ∨ mH x y = r ∧ mL x y ≤ u) (hu : 0 ≤ u) : x * y ≤ r * 18446744073709551616 + u := by
  have e := mH_mL x y
  have w := mL_word x y
  obtain ⟨a, b⟩ := w
  rcases h with h | h <;> omega
theorem test_no (x y r u : Int) (hu : u < 18446744073709551616) (h : r < mH x y ∨ mH x y = r ∧ u < mL x y) : r * 18446744073709551616 + u < x * y := by
  have e := mH_mL x y
  have w := mL_word x y
  obtain ⟨a, b⟩ := w
  rcases h with h | h <;> omega

set_option maxHeartbeats 1000000 in
theorem estimate_div (u2 u1 u0 v1 v0 : Int) (h2 : Word u2) (h1 : Word u1) (h0 : Word u0) (hv1 : Word v1) (hv0 : Word v0) (h : u2 < v1) (w : World) :
    Calls Try.prog 32 #[.int .u64 u2, .int .u64 u1, .int .u64 u0, .int .u64 v1, .int .u64 v0] w fun e w' => e = .returned (.int .u64 (est u2 u1 u0 v1 v0)) ∧ ∃ n, w' = w.drewN n := by
  have S := est_start_div u2 u1 u0 v1 v0 h2.1 h1 h0 hv1 hv0.1 h
  have hv1' := hv1; have hv0' := hv0; have h0' := h0
  obtain ⟨a2, b2⟩ := h2; obtain ⟨a1, b1⟩ := h1; obtain ⟨a0, b0⟩ := h0; obtain ⟨c1, d1⟩ := hv1; obtain ⟨c0, d0⟩ := hv0
  have hp : 0 < v1 := by omega
  go_enter Try.func32, Try.ntmps32
  go_wp2_with (go_at_call 39; refine (bDiv u2 u1 v1 a2 a1 b1 h d1 _).mono ?_; rintro e w' ⟨rfl, n, hw⟩; rw [hw])
  go_loop [11, 12, 13] (fun a b d => ∃ (q r : Int) (c : Bool), a = .int .u64 q ∧ b = .int .u64 r ∧ d = .bool c ∧ 0 ≤ r ∧ r < 18446744073709551616 ∧ (c = true → Est u2 u1 u0 v1 v0 q r) ∧ (c = false → q = est u2 u1 u0 v1 v0)) (fun a _ _ => (intOf a).toNat)
  case atStart => exact ⟨_, _, true, rfl, rfl, rfl, S.r0, S.r1, fun _ => S, fun hb => by cases hb⟩
  case round =>
    clear S
    obtain ⟨q, r, c, rfl, rfl, rfl, r0, r1, Ht, Hf⟩ := hrel
    cases c with
    | false =>
      have hq := Hf rfl
      subst hq
      clear Ht Hf
      go_wp2
      go_ret
      exact ⟨rfl, _, rfl⟩
    | true =>
      have H := Ht rfl
      clear Ht Hf
      have q0 := H.q0; have q1 := H.q1
      by_cases t1 : mH q v0 < r
      · have hq := est_is _ _ _ _ _ _ _ hp c0 H.e H.lo q1 (test_yes q v0 r u0 (.inl t1) a0)
        subst hq
        clear H
        go_wp2_with (first | (go_at_call 33; refine (bMul _ v0 q0 q1 c0 d0 _).mono ?_; rintro e w' ⟨rfl, hw⟩; rw [hw]))
        go_ret
        exact ⟨rfl, _, rfl⟩
      · by_cases t2 : mH q v0 = r
        · subst t2
          by_cases t3 : mL q v0 ≤ u0
          · have hq := est_is _ _ _ _ _ _ _ hp c0 H.e H.lo q1 (test_yes q v0 _ u0 (.inr ⟨rfl, t3⟩) a0)
            clear H
            have HQ : Hid (q = est u2 u1 u0 v1 v0) := hq
            clear hq
            go_wp2_with (first | (go_at_call 33; refine (bMul q v0 q0 q1 c0 d0 _).mono ?_; rintro e w' ⟨rfl, hw⟩; rw [hw]))
            go_ret
            exact ⟨congrArg (fun x => Ending.returned (.int .u64 x)) HQ.out, _, rfl⟩
          · obtain ⟨c, hc⟩ : ∃ c, (aC (mH q v0) v1 0 == 0) = c := ⟨_, rfl⟩
            have R := est_round_rel _ _ _ _ _ _ _ c hp h0' hv1' hv0' H (test_no q v0 _ u0 b0 (.inr ⟨rfl, by omega⟩)) hc
            obtain ⟨R0, R1, R2, R3, R4⟩ := R
            clear H
            go_wp2_with (first | (go_at_call 33; refine (bMul q v0 q0 q1 c0 d0 _).mono ?_; rintro e w' ⟨rfl, hw⟩; rw [hw]) | (go_at_call 34; refine (bAdd _ v1 0 r0 c1 (by decide) (by decide) _).mono ?_; rintro e w' ⟨rfl, hw⟩; rw [hw]))
            go_round
            case rel => exact ⟨_, _, c, rfl, rfl, rfl, R1, R2, R3, R4⟩
            case measure => simp [intOf]; omega
        · obtain ⟨c, hc⟩ : ∃ c, (aC r v1 0 == 0) = c := ⟨_, rfl⟩
          have t4 : r < mH q v0 := by omega
          have R := est_round_rel _ _ _ _ _ _ _ c hp h0' hv1' hv0' H (test_no q v0 _ u0 b0 (.inl t4)) hc
          obtain ⟨R0, R1, R2, R3, R4⟩ := R
          clear H
          go_wp2_with (first | (go_at_call 33; refine (bMul q v0 q0 q1 c0 d0 _).mono ?_; rintro e w' ⟨rfl, hw⟩; rw [hw]) | (go_at_call 34; refine (bAdd _ v1 0 r0 c1 (by decide) (by decide) _).mono ?_; rintro e w' ⟨rfl, hw⟩; rw [hw]))
          go_round
          case rel => exact ⟨_, _, c, rfl, rfl, rfl, R1, R2, R3, R4⟩
          case measure => simp [intOf]; omega

theorem est_start_rel (u1 u0 v1 v0 : Int) (c : Bool) (hp : 0 < v1) (h1 : Word u1) (h0 : Word u0) (hv1 : Word v1) (hv0 : Word v0) (hc : (aC u1 v1 0 == 0) = c) :
    0 ≤ aS u1 v1 0 ∧ aS u1 v1 0 < 18446744073709551616 ∧ (c = true → Est v1 u1 u0 v1 v0 18446744073709551615 (aS u1 v1 0)) ∧ (c = false → 18446744073709551615 = est v1 u1 u0 v1 v0) := by
  have h1' := h1; have hv1' := hv1
  obtain ⟨a1, b1⟩ := h1; obtain ⟨c1, d1⟩ := hv1
  refine ⟨(aS_word _ _ _).1, (aS_word _ _ _).2, fun hb => ?_, fun hb => ?_⟩
  · have hlt : u1 + v1 < 18446744073709551616 := by
      refine Int.not_le.1 fun hge => ?_
      rw [aC_great u1 v1 hge (by omega)] at hc
      subst hb
      simp at hc
    rw [aS_small u1 v1 (by omega) hlt]
    exact est_start_top u1 u0 v1 v0 h1' hv1' hlt
  · have hge : 18446744073709551616 ≤ u1 + v1 := by
      refine Int.not_lt.1 fun hlt => ?_
      rw [aC_small u1 v1 (by omega) hlt] at hc
      subst hb
      simp at hc
    exact (est_top u1 u0 v1 v0 h1' h0 hv1' hv0 hp hge).symm

set_option maxHeartbeats 1000000 in
theorem estimate_top (u1 u0 v1 v0 : Int) (hp : 0 < v1) (h1 : Word u1) (h0 : Word u0) (hv1 : Word v1) (hv0 : Word v0) (w : World) :
    Calls Try.prog 32 #[.int .u64 v1, .int .u64 u1, .int .u64 u0, .int .u64 v1, .int .u64 v0] w fun e w' => e = .returned (.int .u64 (est v1 u1 u0 v1 v0)) ∧ ∃ n, w' = w.drewN n := by
  have hv1' := hv1; have hv0' := hv0; have h0' := h0
  obtain ⟨c, hc⟩ : ∃ c, (aC u1 v1 0 == 0) = c := ⟨_, rfl⟩
  obtain ⟨S1, S2, S3, S4⟩ := est_start_rel u1 u0 v1 v0 c hp h1 h0 hv1 hv0 hc
  obtain ⟨a1, b1⟩ := h1; obtain ⟨a0, b0⟩ := h0; obtain ⟨c1, d1⟩ := hv1; obtain ⟨c0, d0⟩ := hv0
  go_enter Try.func32, Try.ntmps32
  go_wp2_with (go_at_call 34; refine (bAdd u1 v1 0 a1 c1 (by decide) (by decide) _).mono ?_; rintro e w' ⟨rfl, hw⟩; rw [hw])
  clear hc
  go_loop [11, 12, 13] (fun a b d => ∃ (q r : Int) (c : Bool), a = .int .u64 q ∧ b = .int .u64 r ∧ d = .bool c ∧ 0 ≤ r ∧ r < 18446744073709551616 ∧ (c = true → Est v1 u1 u0 v1 v0 q r) ∧ (c = false → q = est v1 u1 u0 v1 v0)) (fun a _ _ => (intOf a).toNat)
  case atStart => exact ⟨_, _, c, rfl, rfl, rfl, S1, S2, S3, S4⟩
  case round =>
    clear S1 S2 S3 S4
    obtain ⟨q, r, c, rfl, rfl, rfl, r0, r1, Ht, Hf⟩ := hrel
    cases c with
    | false =>
      have hq := Hf rfl
      subst hq
      clear Ht Hf
      go_wp2
      go_ret
      exact ⟨rfl, 0, rfl⟩
    | true =>
      have H := Ht rfl
      clear Ht Hf
      have q0 := H.q0; have q1 := H.q1
      by_cases t1 : mH q v0 < r
      · have hq := est_is _ _ _ _ _ _ _ hp c0 H.e H.lo q1 (test_yes q v0 r u0 (.inl t1) a0)
        subst hq
        clear H
        go_wp2_with (first | (go_at_call 33; refine (bMul _ v0 q0 q1 c0 d0 _).mono ?_; rintro e w' ⟨rfl, hw⟩; rw [hw]))
        go_ret
        exact ⟨rfl, 0, rfl⟩
      · by_cases t2 : mH q v0 = r
        · subst t2
          by_cases t3 : mL q v0 ≤ u0
          · have hq := est_is _ _ _ _ _ _ _ hp c0 H.e H.lo q1 (test_yes q v0 _ u0 (.inr ⟨rfl, t3⟩) a0)
            clear H
            have HQ : Hid (q = est v1 u1 u0 v1 v0) := hq
            clear hq
            go_wp2_with (first | (go_at_call 33; refine (bMul q v0 q0 q1 c0 d0 _).mono ?_; rintro e w' ⟨rfl, hw⟩; rw [hw]))
            go_ret
            exact ⟨congrArg (fun x => Ending.returned (.int .u64 x)) HQ.out, 0, rfl⟩
          · obtain ⟨c, hc⟩ : ∃ c, (aC (mH q v0) v1 0 == 0) = c := ⟨_, rfl⟩
            have R := est_round_rel _ _ _ _ _ _ _ c hp h0' hv1' hv0' H (test_no q v0 _ u0 b0 (.inr ⟨rfl, by omega⟩)) hc
            obtain ⟨R0, R1, R2, R3, R4⟩ := R
            clear H
            go_wp2_with (first | (go_at_call 33; refine (bMul q v0 q0 q1 c0 d0 _).mono ?_; rintro e w' ⟨rfl, hw⟩; rw [hw]) | (go_at_call 34; refine (bAdd _ v1 0 r0 c1 (by decide) (by decide) _).mono ?_; rintro e w' ⟨rfl, hw⟩; rw [hw]))
            go_round
            case rel => exact ⟨_, _, c, rfl, rfl, rfl, R1, R2, R3, R4⟩
            case measure => simp [intOf]; omega
        · obtain ⟨c, hc⟩ : ∃ c, (aC r v1 0 == 0) = c := ⟨_, rfl⟩
          have t4 : r < mH q v0 := by omega
          have R := est_round_rel _ _ _ _ _ _ _ c hp h0' hv1' hv0' H (test_no q v0 _ u0 b0 (.inl t4)) hc
          obtain ⟨R0, R1, R2, R3, R4⟩ := R
          clear H
          go_wp2_with (first | (go_at_call 33; refine (bMul q v0 q0 q1 c0 d0 _).mono ?_; rintro e w' ⟨rfl, hw⟩; rw [hw]) | (go_at_call 34; refine (bAdd _ v1 0 r0 c1 (by decide) (by decide) _).mono ?_; rintro e w' ⟨rfl, hw⟩; rw [hw]))
          go_round
          case rel => exact ⟨_, _, c, rfl, rfl, rfl, R1, R2, R3, R4⟩
          case measure => simp [intOf]; omega

/-- nat.estimate: (u2:u1) at most (v1:v0), v1 not zero. -/
theorem estimate (u2 u1 u0 v1 v0 : Int) (h2 : Word u2) (h1 : Word u1) (h0 : Word u0) (hv1 : Word v1) (hv0 : Word v0) (hp : 0 < v1) (h : u2 ≤ v1) (w : World) :
    Calls Try.prog 32 #[.int .u64 u2, .int .u64 u1, .int .u64 u0, .int .u64 v1, .int .u64 v0] w fun e w' => e = .returned (.int .u64 (est u2 u1 u0 v1 v0)) ∧ ∃ n, w' = w.drewN n := by
  by_cases hlt : u2 < v1
  · exact estimate_div u2 u1 u0 v1 v0 h2 h1 h0 hv1 hv0 hlt w
  · obtain rfl : u2 = v1 := by omega
    exact estimate_top u1 u0 u2 v0 hp h1 h0 hv1 hv0 w

/-- nat.ZZEstimate passes on. -/
theorem zzEstimate (u2 u1 u0 v1 v0 : Int) (h2 : Word u2) (h1 : Word u1) (h0 : Word u0) (hv1 : Word v1) (hv0 : Word v0) (hp : 0 < v1) (h : u2 ≤ v1) (w : World) :
    Calls Try.prog 15 #[.int .u64 u2, .int .u64 u1, .int .u64 u0, .int .u64 v1, .int .u64 v0] w fun e w' => e = .returned (.int .u64 (est u2 u1 u0 v1 v0)) ∧ ∃ n, w' = w.drewN n := by
  go_enter Try.func15, Try.ntmps15
  go_wp2_with (go_at_call 32; refine (estimate u2 u1 u0 v1 v0 h2 h1 h0 hv1 hv0 hp h _).mono ?_; rintro e w' ⟨rfl, n, hw⟩; rw [hw])
  go_ret
  exact ⟨rfl, _, rfl⟩

end Go.Proofs.Qxb6620824a
