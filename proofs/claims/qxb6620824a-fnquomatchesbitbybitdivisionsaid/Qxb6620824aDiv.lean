/-
  math/bits.Len64, LeadingZeros64, Div64, Div AT THIS DUMP.
-/
import Derived.Test.Qxb6620824aBits
import Derived.Deep.QuietTactic
import Derived.BigQuiet
import Derived.Deep.Draws
import Derived.Deep.Light
import Derived.Test.Qxb6620824aMath2
set_option linter.unusedVariables false
namespace Go.Proofs.Qxb6620824a
open Go.RowKit Plain

set_option maxRecDepth 100000 in
theorem len8tab_size : (Lib.len8tab.size : Int) = 256 := by
  have : Lib.len8tab.size = 256 := by decide
  omega
theorem wrap_add (k a b : Nat) (hk : k ≤ 56) (ha : a ≤ 8) (hb : b = k + a) : wrap64 ((k : Int) + wrap64 (a : Int)) = (b : Int) := by
  unfold wrap64
  omega
theorem wrap_wrap (a : Nat) (ha : a ≤ 8) : wrap64 (wrap64 (a : Int)) = (a : Int) := by
  unfold wrap64
  omega
theorem wrap_one (a : Nat) (ha : a ≤ 8) : wrap64 (a : Int) = (a : Int) := by
  unfold wrap64
  omega
theorem len8_get (y : Int) (h : y.toNat < Lib.len8tab.size) : ((Lib.len8tab[y.toNat]'h).toNat : Int) = Lib.len8 y := by
  unfold Lib.len8
  rw [getElem?_pos Lib.len8tab y.toNat h]
  rfl

set_option maxHeartbeats 4000000 in
set_option maxRecDepth 1000000 in
theorem len64 (x : Int) (w : World) (h0 : 0 ≤ x) (h1 : x ≤ 18446744073709551615) :
    Calls Try.prog 50 #[.int .u64 x] w fun e w' => e = .returned (.int .i64 (Lib.bitLen x.toNat)) ∧ w' = w := by
  go_enter Try.func50, Try.ntmps50
  go_wp2
  all_goals first
    | (go_ret; refine ⟨congrArg Ending.returned (congrArg (Value.int IntKind.i64) ?_), rfl⟩; go_light)
    | (exfalso
       go_light
       have hs := len8tab_size
       omega)
  all_goals first
    | (rw [len8_get (x / 4294967296 / 65536 / 256) _, Lib.len8_of (x / 4294967296 / 65536 / 256) (by omega) (by omega)]
       have e : (x / 4294967296 / 65536 / 256).toNat = x.toNat / 72057594037927936 := by omega
       have l := Lib.bitLen_le8' (x / 4294967296 / 65536 / 256) (by omega) (by omega)
       have s := Lib.bitLen_shift56 x.toNat (by omega) (by omega)
       rw [e] at l ⊢
       exact wrap_add 56 _ _ (by decide) l s)
    | (rw [len8_get (x / 4294967296 / 65536) _, Lib.len8_of (x / 4294967296 / 65536) (by omega) (by omega)]
       have e : (x / 4294967296 / 65536).toNat = x.toNat / 281474976710656 := by omega
       have l := Lib.bitLen_le8' (x / 4294967296 / 65536) (by omega) (by omega)
       have s := Lib.bitLen_shift48 x.toNat (by omega) (by omega)
       rw [e] at l ⊢
       exact wrap_add 48 _ _ (by decide) l s)
    | (rw [len8_get (x / 4294967296 / 256) _, Lib.len8_of (x / 4294967296 / 256) (by omega) (by omega)]
       have e : (x / 4294967296 / 256).toNat = x.toNat / 1099511627776 := by omega
       have l := Lib.bitLen_le8' (x / 4294967296 / 256) (by omega) (by omega)
       have s := Lib.bitLen_shift40 x.toNat (by omega) (by omega)
       rw [e] at l ⊢
       exact wrap_add 40 _ _ (by decide) l s)
    | (rw [len8_get (x / 4294967296) _, Lib.len8_of (x / 4294967296) (by omega) (by omega)]
       have e : (x / 4294967296).toNat = x.toNat / 4294967296 := by omega
       have l := Lib.bitLen_le8' (x / 4294967296) (by omega) (by omega)
       have s := Lib.bitLen_shift32 x.toNat (by omega) (by omega)
       rw [e] at l ⊢
       exact wrap_add 32 _ _ (by decide) l s)
    | (rw [len8_get (x / 65536 / 256) _, Lib.len8_of (x / 65536 / 256) (by omega) (by omega)]
       have e : (x / 65536 / 256).toNat = x.toNat / 16777216 := by omega
       have l := Lib.bitLen_le8' (x / 65536 / 256) (by omega) (by omega)
       have s := Lib.bitLen_shift24 x.toNat (by omega) (by omega)
       rw [e] at l ⊢
       exact wrap_add 24 _ _ (by decide) l s)
    | (rw [len8_get (x / 65536) _, Lib.len8_of (x / 65536) (by omega) (by omega)]
       have e : (x / 65536).toNat = x.toNat / 65536 := by omega
       have l := Lib.bitLen_le8' (x / 65536) (by omega) (by omega)
       have s := Lib.bitLen_shift16 x.toNat (by omega) (by omega)
       rw [e] at l ⊢
       exact wrap_add 16 _ _ (by decide) l s)
    | (rw [len8_get (x / 256) _, Lib.len8_of (x / 256) (by omega) (by omega)]
       have e : (x / 256).toNat = x.toNat / 256 := by omega
       have l := Lib.bitLen_le8' (x / 256) (by omega) (by omega)
       have s := Lib.bitLen_shift8 x.toNat (by omega) (by omega)
       rw [e] at l ⊢
       exact wrap_add 8 _ _ (by decide) l s)
    | (rw [len8_get (x) _, Lib.len8_of (x) (by omega) (by omega)]
       have l := Lib.bitLen_le8' (x) (by omega) (by omega)
       first | exact wrap_wrap _ l | exact wrap_add 0 _ _ (by decide) l (by omega) | exact wrap_one _ l)

theorem bitLen_le64 (x : Int) (h0 : 0 ≤ x) (h1 : x ≤ 18446744073709551615) : Lib.bitLen x.toNat ≤ 64 := Lib.bitLen_le x.toNat 64 (by omega) (by omega)

theorem leading64 (x : Int) (w : World) (h0 : 0 ≤ x) (h1 : x ≤ 18446744073709551615) :
    Calls Try.prog 51 #[.int .u64 x] w fun e w' => e = .returned (.int .i64 (lz x)) ∧ w' = w := by
  have l := bitLen_le64 x h0 h1
  go_enter Try.func51, Try.ntmps51
  go_wp2_with (go_at_call 50; refine (len64 x _ h0 h1).mono ?_; rintro e w' ⟨rfl, rfl⟩)
  go_ret
  exact ⟨rfl, rfl⟩

theorem len_ (x : Int) (w : World) (h0 : 0 ≤ x) (h1 : x ≤ 18446744073709551615) :
    Calls Try.prog 40 #[.int .u64 x] w fun e w' => e = .returned (.int .i64 (Lib.bitLen x.toNat)) ∧ w' = w := by
  go_enter Try.func40, Try.ntmps40
  go_wp2_with (go_at_call 50; refine (len64 x _ h0 h1).mono ?_; rintro e w' ⟨rfl, rfl⟩)
  go_ret
  exact ⟨rfl, rfl⟩

theorem leading (x : Int) (w : World) (h0 : 0 ≤ x) (h1 : x ≤ 18446744073709551615) :
    Calls Try.prog 29 #[.int .u64 x] w fun e w' => e = .returned (.int .i64 (lz x)) ∧ w' = w := by
  have l := bitLen_le64 x h0 h1
  go_enter Try.func29, Try.ntmps29
  go_wp2_with (go_at_call 40; refine (len_ x _ h0 h1).mono ?_; rintro e w' ⟨rfl, rfl⟩)
  go_ret
  exact ⟨rfl, rfl⟩

set_option maxHeartbeats 400000 in
theorem div64_low (lo y : Int) (hl : 0 ≤ lo) (hl' : lo < 18446744073709551616) (hy : 0 < y) (hy' : y < 18446744073709551616) (w : World) :
    Calls Try.prog 48 #[.int .u64 0, .int .u64 lo, .int .u64 y] w fun e w' => e = .returned (.tuple #[.int .u64 (lo / y), .int .u64 (lo % y)]) ∧ ∃ n, w' = w.drewN n := by
  go_enter Try.func48, Try.ntmps48
  go_wp2
  go_quiet (fail)
  go_wp2
  go_ret2
  exact ⟨rfl, _, rfl⟩

set_option maxHeartbeats 1000000 in
/-- THE WALK OF Div64's LONG WAY, its numbers under names. -/
theorem div64_core (hi lo y s Y yn1 yn0 un32 un10 un1 un0 Q1 un21 Q0 R2 : Int) (hh : 0 < hi) (hl : 0 ≤ lo) (hl' : lo < 18446744073709551616) (hy : hi < y) (hy' : y < 18446744073709551616)
    (hs0 : 0 ≤ s) (hs1 : s < 64) (hs : lz y = s)
    (eY : IntKind.u64.wrap (y * 2 ^ s.toNat) = Y) (e1 : Y / 4294967296 = yn1) (e0 : bits BinOp.and IntKind.u64 Y 4294967295 = yn0)
    (eu : bits BinOp.or IntKind.u64 (IntKind.u64.wrap (hi * 2 ^ s.toNat)) (lo / 2 ^ (64 - s).toNat) = un32)
    (el : IntKind.u64.wrap (lo * 2 ^ s.toNat) = un10) (el1 : un10 / 4294967296 = un1) (el0 : bits BinOp.and IntKind.u64 un10 4294967295 = un0)
    (b1 : 2147483648 ≤ yn1) (b1' : yn1 < 4294967296) (b0 : 0 ≤ yn0) (b0' : yn0 < 4294967296) (bu : 0 ≤ un32) (bu' : un32 < 18446744073709551616)
    (c1 : 0 ≤ un1) (c1' : un1 < 4294967296) (c0 : 0 ≤ un0) (c0' : un0 < 4294967296)
    (bq1 : 0 ≤ un32 / yn1) (bq1' : un32 / yn1 ≤ 4294967297) (br1 : un32 / yn1 * yn1 ≤ un32) (br1' : 0 ≤ un32 / yn1 * yn1)
    (hUY : un32 < yn1 * 4294967296 + yn0) (H1 : Half un32 un1 yn1 yn0 (un32 / yn1) (un32 - un32 / yn1 * yn1))
    (hQ1 : Hid (Q1 = (un32 * 4294967296 + un1) / (yn1 * 4294967296 + yn0))) (bQ1 : 0 ≤ Q1) (bQ1' : Q1 < 4294967296)
    (e21 : IntKind.u64.wrap (IntKind.u64.wrap (IntKind.u64.wrap (un32 * 4294967296) + un1) - IntKind.u64.wrap (Q1 * Y)) = un21) (bv : 0 ≤ un21) (bv' : un21 < 18446744073709551616)
    (bq2 : 0 ≤ un21 / yn1) (bq2' : un21 / yn1 ≤ 4294967297) (br2 : un21 / yn1 * yn1 ≤ un21) (br2' : 0 ≤ un21 / yn1 * yn1)
    (hUY2 : un21 < yn1 * 4294967296 + yn0) (H2 : Half un21 un0 yn1 yn0 (un21 / yn1) (un21 - un21 / yn1 * yn1))
    (hQ0 : Hid (Q0 = (un21 * 4294967296 + un0) / (yn1 * 4294967296 + yn0))) (bQ0 : 0 ≤ Q0) (bQ0' : Q0 < 4294967296)
    (e22 : IntKind.u64.wrap (IntKind.u64.wrap (IntKind.u64.wrap (un21 * 4294967296) + un0) - IntKind.u64.wrap (Q0 * Y)) = R2)
    (w : World) :
    Calls Try.prog 48 #[.int .u64 hi, .int .u64 lo, .int .u64 y] w fun e w' => e = .returned (.tuple #[.int .u64 (Q1 * 4294967296 + Q0), .int .u64 (R2 / 2 ^ s.toNat)]) ∧ w' = w := by
  go_enter Try.func48, Try.ntmps48
  go_wp2_with (go_at_call 51; refine (leading64 y _ (by omega) (by omega)).mono ?_; rintro e w' ⟨rfl, hw⟩; rw [hw])
  clear hs eY e1 e0 eu el el1 el0
  go_loop [15, 16] (fun a b => ∃ q r : Int, a = .int .u64 q ∧ b = .int .u64 r ∧ Half un32 un1 yn1 yn0 q r) (fun a _ => (intOf a).toNat)
  case atStart => exact ⟨_, _, rfl, rfl, H1⟩
  case round =>
    clear H1 bq1 bq1' br1 br1'
    obtain ⟨q, r, rfl, rfl, H⟩ := hrel
    have nw := half_nowrap _ _ _ _ _ _ b0 b0' H
    have q0 := H.q0; have q1 := H.q1; have r0 := H.r0; have r1 := H.r1
    by_cases ht : 4294967296 ≤ q ∨ 4294967296 * r + un1 < q * yn0
    · have hd := half_down _ _ _ _ _ _ b1 b1' b0 b0' c1 c1' hUY H ht
      have hq1 : 0 ≤ q - 1 := hd.2.2.1
      by_cases hr : 4294967296 ≤ r + yn1
      · have hq : q - 1 = Q1 := by rw [hQ1.out]; exact half_break _ _ _ _ _ _ b1 b0 b0' c1 hd.1 hd.2.1 hd.2.2.1 hd.2.2.2 hr
        clear H hd
        by_cases hqb : 4294967296 ≤ q
        all_goals
          go_wp2
          clear hq ht hr hqb nw q0 q1 r0 r1 hq1
          go_loop [18, 16] (fun a b => ∃ q r : Int, a = .int .u64 q ∧ b = .int .u64 r ∧ Half un21 un0 yn1 yn0 q r) (fun a _ => (intOf a).toNat)
          case atStart => exact ⟨_, _, rfl, rfl, H2⟩
          case round =>
            clear H2 bq2 bq2' br2 br2'
            obtain ⟨p, t, rfl, rfl, H⟩ := hrel
            have nw2 := half_nowrap _ _ _ _ _ _ b0 b0' H
            have p0 := H.q0; have p1 := H.q1; have t0 := H.r0; have t1 := H.r1
            by_cases hT : 4294967296 ≤ p ∨ 4294967296 * t + un0 < p * yn0
            · have hd := half_down _ _ _ _ _ _ b1 b1' b0 b0' c0 c0' hUY2 H hT
              have hp1 : 0 ≤ p - 1 := hd.2.2.1
              by_cases htr : 4294967296 ≤ t + yn1
              · have hp : p - 1 = Q0 := by rw [hQ0.out]; exact half_break _ _ _ _ _ _ b1 b0 b0' c0 hd.1 hd.2.1 hd.2.2.1 hd.2.2.2 htr
                clear H hd
                by_cases hpb : 4294967296 ≤ p
                all_goals
                  go_wp2
                  go_ret2
                  exact ⟨rfl, rfl⟩
              · have HH : Half un21 un0 yn1 yn0 (p - 1) (t + yn1) := ⟨hd.1, hd.2.1, hd.2.2.1, by omega, by omega, by omega⟩
                by_cases hpb : 4294967296 ≤ p
                all_goals
                  go_wp2
                  go_round
                  case rel => exact ⟨_, _, rfl, rfl, HH⟩
                  case measure => simp [intOf]; omega
            · have hT1 : p < 4294967296 := by omega
              have hT2 : p * yn0 ≤ 4294967296 * t + un0 := by omega
              have hp : p = Q0 := by rw [hQ0.out]; exact half_exit _ _ _ _ _ _ b1 b0 H hT2
              subst hp
              clear H
              go_wp2
              go_ret2
              exact ⟨rfl, rfl⟩
      · have HH : Half un32 un1 yn1 yn0 (q - 1) (r + yn1) := ⟨hd.1, hd.2.1, hd.2.2.1, by omega, by omega, by omega⟩
        by_cases hqb : 4294967296 ≤ q
        all_goals
          go_wp2
          go_round
          case rel => exact ⟨_, _, rfl, rfl, HH⟩
          case measure => simp [intOf]; omega
    · have ht1 : q < 4294967296 := by omega
      have ht2 : q * yn0 ≤ 4294967296 * r + un1 := by omega
      have hq : q = Q1 := by rw [hQ1.out]; exact half_exit _ _ _ _ _ _ b1 b0 H ht2
      subst hq
      clear H
      go_wp2
      clear ht ht1 ht2 nw r0 r1
      go_loop [18, 16] (fun a b => ∃ q r : Int, a = .int .u64 q ∧ b = .int .u64 r ∧ Half un21 un0 yn1 yn0 q r) (fun a _ => (intOf a).toNat)
      case atStart => exact ⟨_, _, rfl, rfl, H2⟩
      case round =>
        clear H2 bq2 bq2' br2 br2'
        obtain ⟨p, t, rfl, rfl, H⟩ := hrel
        have nw2 := half_nowrap _ _ _ _ _ _ b0 b0' H
        have p0 := H.q0; have p1 := H.q1; have t0 := H.r0; have t1 := H.r1
        by_cases hT : 4294967296 ≤ p ∨ 4294967296 * t + un0 < p * yn0
        · have hd := half_down _ _ _ _ _ _ b1 b1' b0 b0' c0 c0' hUY2 H hT
          have hp1 : 0 ≤ p - 1 := hd.2.2.1
          by_cases htr : 4294967296 ≤ t + yn1
          · have hp : p - 1 = Q0 := by rw [hQ0.out]; exact half_break _ _ _ _ _ _ b1 b0 b0' c0 hd.1 hd.2.1 hd.2.2.1 hd.2.2.2 htr
            clear H hd
            by_cases hpb : 4294967296 ≤ p
            all_goals
              go_wp2
              go_ret2
              exact ⟨rfl, rfl⟩
          · have HH : Half un21 un0 yn1 yn0 (p - 1) (t + yn1) := ⟨hd.1, hd.2.1, hd.2.2.1, by omega, by omega, by omega⟩
            by_cases hpb : 4294967296 ≤ p
            all_goals
              go_wp2
              go_round
              case rel => exact ⟨_, _, rfl, rfl, HH⟩
              case measure => simp [intOf]; omega
        · have hT1 : p < 4294967296 := by omega
          have hT2 : p * yn0 ≤ 4294967296 * t + un0 := by omega
          have hp : p = Q0 := by rw [hQ0.out]; exact half_exit _ _ _ _ _ _ b1 b0 H hT2
          subst hp
          clear H
          go_wp2
          go_ret2
          exact ⟨rfl, rfl⟩

theorem mod64 (x : Int) : IntKind.u64.wrap x = x % 18446744073709551616 := IntKind.wrap_u64 x
theorem word_mod (x : Int) : 0 ≤ x % 18446744073709551616 ∧ x % 18446744073709551616 < 18446744073709551616 := by omega

/-- math/bits.Div64: EVERY hi below y: the quotient and the remainder of (hi:lo) by y. -/
theorem div64 (hi lo y : Int) (hh : 0 ≤ hi) (hl : 0 ≤ lo) (hl' : lo < 18446744073709551616) (hy : hi < y) (hy' : y < 18446744073709551616) (w : World) :
    Calls Try.prog 48 #[.int .u64 hi, .int .u64 lo, .int .u64 y] w fun e w' => e = .returned (.tuple #[.int .u64 (dQ hi lo y), .int .u64 (dR hi lo y)]) ∧ ∃ n, w' = w.drewN n := by
  by_cases h0 : hi = 0
  · subst h0
    have := div64_low lo y hl hl' (by omega) hy' w
    unfold dQ dR
    simpa using this
  obtain ⟨l0, l1, l2, l3⟩ := lz_bounds y (by omega) hy'
  obtain ⟨s, hs⟩ : ∃ s, lz y = s := ⟨_, rfl⟩
  rw [hs] at l0 l1 l2 l3
  obtain ⟨k, rfl⟩ := Int.eq_ofNat_of_zero_le l0
  have ek : ((k : Int)).toNat = k := by simp
  have ek' : (64 - (k : Int)).toNat = 64 - k := by omega
  rw [ek] at l2 l3
  obtain ⟨d1, d2, d3, d4, d5, d6⟩ := div_shift hi lo y k (by omega) hh hl hl' hy l3
  obtain ⟨Y, hY⟩ : ∃ Y, Y = y * 2 ^ k := ⟨_, rfl⟩
  obtain ⟨un32, hu⟩ : ∃ u, u = hi * 2 ^ k + lo / 2 ^ (64 - k) := ⟨_, rfl⟩
  obtain ⟨un10, hv⟩ : ∃ u, u = lo * 2 ^ k % 18446744073709551616 := ⟨_, rfl⟩
  rw [← hY] at l2 l3
  rw [← hu, ← hv] at d6
  rw [← hu, ← hY] at d5
  have v0 := word_mod (lo * 2 ^ k)
  rw [← hv] at v0
  have hp : (0 : Int) < 2 ^ k := Int.pow_pos (by decide)
  have hsum : Y / 4294967296 * 4294967296 + Y % 4294967296 = Y := by omega
  have hUY : un32 < Y / 4294967296 * 4294967296 + Y % 4294967296 := by omega
  have hu0 : 0 ≤ un32 := by omega
  have H1 := half_first un32 (un10 / 4294967296) (Y / 4294967296) (Y % 4294967296) hu0 (by omega) (by omega) (by omega) (by omega) (by omega) (by omega) hUY
  obtain ⟨Q1, hQ1⟩ : ∃ Q, Q = (un32 * 4294967296 + un10 / 4294967296) / (Y / 4294967296 * 4294967296 + Y % 4294967296) := ⟨_, rfl⟩
  have hQ1Y : Q1 = (un32 * 4294967296 + un10 / 4294967296) / Y := by rw [hQ1, hsum]
  have q1a : 0 ≤ Q1 := by rw [hQ1Y]; exact Int.ediv_nonneg (by omega) (by omega)
  have q1b : Q1 < 4294967296 := by rw [hQ1Y]; exact quo_lt_base _ _ _ (by omega) (by omega)
  obtain ⟨un21, h21⟩ : ∃ u, u = (un32 * 4294967296 + un10 / 4294967296) % Y := ⟨_, rfl⟩
  have w0 : 0 ≤ un21 := by rw [h21]; exact Int.emod_nonneg _ (by omega)
  have w1 : un21 < Y := by rw [h21]; exact Int.emod_lt_of_pos _ (by omega)
  have hUY2 : un21 < Y / 4294967296 * 4294967296 + Y % 4294967296 := by omega
  have H2 := half_first un21 (un10 % 4294967296) (Y / 4294967296) (Y % 4294967296) w0 (by omega) (by omega) (by omega) (by omega) (by omega) (by omega) hUY2
  obtain ⟨Q0, hQ0⟩ : ∃ Q, Q = (un21 * 4294967296 + un10 % 4294967296) / (Y / 4294967296 * 4294967296 + Y % 4294967296) := ⟨_, rfl⟩
  have hQ0Y : Q0 = (un21 * 4294967296 + un10 % 4294967296) / Y := by rw [hQ0, hsum]
  have q0a : 0 ≤ Q0 := by rw [hQ0Y]; exact Int.ediv_nonneg (by omega) (by omega)
  have q0b : Q0 < 4294967296 := by rw [hQ0Y]; exact quo_lt_base _ _ _ (by omega) (by omega)
  obtain ⟨R2, hR2⟩ : ∃ u, u = (un21 * 4294967296 + un10 % 4294967296) % Y := ⟨_, rfl⟩
  have r0 : 0 ≤ R2 := by rw [hR2]; exact Int.emod_nonneg _ (by omega)
  have r1 : R2 < Y := by rw [hR2]; exact Int.emod_lt_of_pos _ (by omega)
  have j1 : un32 * 4294967296 + un10 / 4294967296 = Q1 * Y + un21 := by
    have := Int.mul_ediv_add_emod (un32 * 4294967296 + un10 / 4294967296) Y
    rw [← hQ1Y, ← h21, Int.mul_comm] at this
    omega
  have j2 : un21 * 4294967296 + un10 % 4294967296 = Q0 * Y + R2 := by
    have := Int.mul_ediv_add_emod (un21 * 4294967296 + un10 % 4294967296) Y
    rw [← hQ0Y, ← hR2, Int.mul_comm] at this
    omega
  obtain ⟨f1, f2⟩ := div_join (hi * 18446744073709551616 + lo) y Y (2 ^ k) Q1 Q0 un32 un21 (un10 / 4294967296) (un10 % 4294967296) R2 hp (by omega) hY (by omega) j1 j2 r0 r1
  have g1 := half_rest un32 (un10 / 4294967296) Y (by omega) (by omega)
  have g2 := half_rest un21 (un10 % 4294967296) Y (by omega) (by omega)
  rw [← hQ1Y, ← h21] at g1
  rw [← hQ0Y, ← hR2] at g2
  have hc := div64_core hi lo y k Y (Y / 4294967296) (Y % 4294967296) un32 un10 (un10 / 4294967296) (un10 % 4294967296) Q1 un21 Q0 R2 (by omega) hl hl' hy hy' l0 l1 hs
    (by rw [ek, mod64, ← hY]; omega) rfl (mask32 Y (by omega) (by omega))
    (by rw [ek, ek', mod64, Int.emod_eq_of_lt d4 d3, or_add k hi _ hh d2 d1 d3 (by omega), ← hu])
    (by rw [ek, mod64, ← hv]) rfl (mask32 un10 (by omega) (by omega))
    (by omega) (by omega) (by omega) (by omega) hu0 (by omega) (by omega) (by omega) (by omega) (by omega)
    H1.q0 H1.q1 (by have := H1.r0; omega) (Int.mul_nonneg H1.q0 (by omega)) hUY H1 hQ1 q1a q1b (by rw [mod64, mod64, mod64, mod64]; exact g1) w0 (by omega)
    H2.q0 H2.q1 (by have := H2.r0; omega) (Int.mul_nonneg H2.q0 (by omega)) hUY2 H2 hQ0 q0a q0b (by rw [mod64, mod64, mod64, mod64]; exact g2) w
  rw [ek, f1, f2] at hc
  exact hc.mono fun e w' ⟨he, hw⟩ => ⟨he, 0, hw⟩

/-- math/bits.Div. -/
theorem bDiv (hi lo y : Int) (hh : 0 ≤ hi) (hl : 0 ≤ lo) (hl' : lo < 18446744073709551616) (hy : hi < y) (hy' : y < 18446744073709551616) (w : World) :
    Calls Try.prog 39 #[.int .u64 hi, .int .u64 lo, .int .u64 y] w fun e w' => e = .returned (.tuple #[.int .u64 (dQ hi lo y), .int .u64 (dR hi lo y)]) ∧ ∃ n, w' = w.drewN n := by
  go_enter Try.func39, Try.ntmps39
  go_wp2_with (go_at_call 48; refine (div64 hi lo y hh hl hl' hy hy' _).mono ?_; rintro e w' ⟨rfl, n, hw⟩; rw [hw])
  go_ret2
  exact ⟨rfl, _, rfl⟩

end Go.Proofs.Qxb6620824a
