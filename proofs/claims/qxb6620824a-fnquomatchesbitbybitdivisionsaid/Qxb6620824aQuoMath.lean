/-
  nat.Quo, PLAIN: the quotient word estimated from shifted top words is the true one or one above it.
-/
import Derived.Test.Qxb6620824aVal
set_option linter.unusedVariables false
namespace Go.Proofs.Qxb6620824a.Plain

/-- The upper word of (a:b) P, where P R is the base. -/
def sT (P R a b : Int) : Int := a * P % 18446744073709551616 + b / R
/-- The word below place p (0 at the bottom). -/
def wb (l : List Int) : Nat → Int
  | 0 => 0
  | p + 1 => nth l p

theorem wb_word {l : List Int} (h : Words l) : ∀ p, Word (wb l p)
  | 0 => word_zero
  | p + 1 => nth_word h p

theorem mul_base (P R b : Int) (hP : 0 < P) (hR : 0 < R) (hPR : P * R = 18446744073709551616) : b * P = b / R * 18446744073709551616 + b * P % 18446744073709551616 := by
  have hd : b * P / 18446744073709551616 = b / R := by
    rw [← hPR, Int.mul_comm b P]
    exact Int.mul_ediv_mul_of_pos b R hP
  have := Int.mul_ediv_add_emod (b * P) 18446744073709551616
  rw [hd] at this
  omega

/-- What lies below place p, shifted, gives p the top bits of the word below it. -/
theorem shift_low {l : List Int} (hl : Words l) (P R : Int) (hP : 0 < P) (hR : 0 < R) (hPR : P * R = 18446744073709551616) : ∀ p, pre l p * P / pw p = wb l p / R
  | 0 => by simp [pre_zero, pw, wb]
  | p + 1 => by
    have hp := pw_pos p
    have hb := pre_bound hl p
    rw [pw_succ, ← hPR, Int.mul_assoc, Int.mul_comm _ P, Int.mul_ediv_mul_of_pos _ _ hP, Int.mul_comm R, ← Int.ediv_ediv_of_nonneg (by omega), wb]
    congr 1
    refine div_eq_of _ _ _ hp ?_ ?_
    · rw [pre_succ']; omega
    · rw [pre_succ', Int.add_mul]; omega

theorem sT_word (P R a b : Int) (k : Nat) (hk : P = 2 ^ k) (hP : 0 < P) (hR : 0 < R) (hPR : P * R = 18446744073709551616) (ha : 0 ≤ a) (hb : Word b) : Word (sT P R a b) := by
  obtain ⟨b0, b1⟩ := hb
  have h1 : 0 ≤ b / R := Int.ediv_nonneg b0 (by omega)
  have h2 : b / R < P := (Int.ediv_lt_iff_lt_mul hR).2 (by omega)
  -- a P % (P R) = (a % R) P
  have h3 : a * P % 18446744073709551616 = P * (a % R) := by
    rw [← hPR, Int.mul_comm a P, Int.mul_emod_mul_of_pos _ _ hP]
  have h4 := Int.emod_nonneg a (show R ≠ 0 by omega)
  have h5 := Int.emod_lt_of_pos a hR
  have h6 : P * (a % R + 1) ≤ P * R := Int.mul_le_mul_of_nonneg_left (by omega) (by omega)
  have h7 : 0 ≤ P * (a % R) := Int.mul_nonneg (by omega) h4
  rw [Int.mul_add, Int.mul_one] at h6
  unfold sT Word
  rw [h3]
  omega

/-- Two words shifted; three words shifted. -/
theorem two_shift (P R y1 y2 y3 : Int) (hP : 0 < P) (hR : 0 < R) (hPR : P * R = 18446744073709551616) (h0 : 0 ≤ y1 * P) (h1 : y1 * P < 18446744073709551616) :
    sT P R y1 y2 * 18446744073709551616 + sT P R y2 y3 = (y1 * 18446744073709551616 + y2) * P + y3 / R := by
  have e2 := mul_base P R y2 hP hR hPR
  unfold sT
  rw [Int.emod_eq_of_lt h0 h1, Int.add_mul (y1 * 18446744073709551616), Int.mul_right_comm y1]
  omega
theorem three_shift (P R a b c d : Int) (hP : 0 < P) (hR : 0 < R) (hPR : P * R = 18446744073709551616) (h0 : 0 ≤ a * P) (h1 : a * P < 18446744073709551616) :
    (sT P R a b * 18446744073709551616 + sT P R b c) * 18446744073709551616 + sT P R c d = ((a * 18446744073709551616 + b) * 18446744073709551616 + c) * P + d / R := by
  have e2 := mul_base P R b hP hR hPR
  have e3 := mul_base P R c hP hR hPR
  unfold sT
  rw [Int.emod_eq_of_lt h0 h1]
  have x1 : ((a * 18446744073709551616 + b) * 18446744073709551616 + c) * P = (a * P * 18446744073709551616 + b * P) * 18446744073709551616 + c * P := by
    rw [Int.add_mul, Int.mul_right_comm, Int.add_mul, Int.mul_right_comm a]
  rw [x1]
  omega

/-- The divisor, shifted: its two top words and what is left. n = e + 2. -/
structure Div (y : List Int) (e : Nat) (P R : Int) (k : Nat) : Prop where
  w : Words y
  len : y.length = e + 2
  k : P = 2 ^ k
  p : 0 < P
  r : 0 < R
  pr : P * R = 18446744073709551616
  lo : 9223372036854775808 ≤ nth y (e + 1) * P
  hi : nth y (e + 1) * P < 18446744073709551616

/-- The divisor's top, as the estimate takes it. -/
def v1 (y : List Int) (e : Nat) (P R : Int) : Int := sT P R (nth y (e + 1)) (nth y e)
def v0 (y : List Int) (e : Nat) (P R : Int) : Int := sT P R (nth y e) (wb y e)

theorem val_two {y : List Int} {e : Nat} (h : y.length = e + 2) : val y = (nth y (e + 1) * 18446744073709551616 + nth y e) * pw e + pre y e := by
  rw [← pre_all, h, pre_succ' y (e + 1), pre_succ' y e, pw_succ, Int.add_mul, Int.mul_assoc, Int.mul_comm 18446744073709551616]
  rw [Int.mul_comm (pw e)]
  omega

theorem div_top {N a d p P : Int} (hp : 0 < p) (h : N = a * p + d) : N * P / p = a * P + d * P / p := by
  rw [h, Int.add_mul, Int.mul_right_comm, Int.add_comm, Int.add_mul_ediv_right _ _ (by omega), Int.add_comm]

theorem Div.top {y : List Int} {e : Nat} {P R : Int} {k : Nat} (D : Div y e P R k) : val y * P / pw e = v1 y e P R * 18446744073709551616 + v0 y e P R := by
  rw [div_top (pw_pos e) (val_two D.len), shift_low D.w P R D.p D.r D.pr]
  have := D.lo
  exact (two_shift P R _ _ _ D.p D.r D.pr (by omega) D.hi).symm
theorem Div.v1_word {y : List Int} {e : Nat} {P R : Int} {k : Nat} (D : Div y e P R k) : Word (v1 y e P R) := sT_word P R _ _ k D.k D.p D.r D.pr (nth_word D.w _).1 (nth_word D.w _)
theorem Div.v0_word {y : List Int} {e : Nat} {P R : Int} {k : Nat} (D : Div y e P R k) : Word (v0 y e P R) := sT_word P R _ _ k D.k D.p D.r D.pr (nth_word D.w _).1 (wb_word D.w _)
theorem Div.v1_top {y : List Int} {e : Nat} {P R : Int} {k : Nat} (D : Div y e P R k) : 9223372036854775808 ≤ v1 y e P R := by
  have h1 : 0 ≤ nth y e / R := Int.ediv_nonneg (nth_word D.w e).1 (by have := D.r; omega)
  have h2 := D.lo; have h3 := D.hi
  unfold v1 sT
  rw [Int.emod_eq_of_lt (by omega) h3]
  omega
theorem Div.pos {y : List Int} {e : Nat} {P R : Int} {k : Nat} (D : Div y e P R k) : 0 < val y ∧ val y < pw (e + 2) := by
  have b := val_bound D.w
  rw [D.len] at b
  refine ⟨?_, b.2⟩
  have hne : val y ≠ 0 := fun h => by
    have t := D.top
    have := D.v1_top; have := D.v0_word.1
    rw [h] at t
    simp at t
    omega
  have := b.1
  omega

/-- THE STEP's NUMBERS: the remainder R0 with 'high' on top of x's first j + e + 2 words, below the divisor times the base to the power j + 1. -/
structure Rem (X y : List Int) (e j : Nat) (P R high : Int) (k : Nat) : Prop where
  D : Div y e P R k
  w : Words X
  h : Word high
  lt : high * pw (j + e + 2) + pre X (j + e + 2) < val y * pw (j + 1)

def rem0 (X : List Int) (e j : Nat) (high : Int) : Int := high * pw (j + e + 2) + pre X (j + e + 2)
def u2 (X : List Int) (e j : Nat) (P R high : Int) : Int := sT P R high (nth X (j + e + 1))
def u1 (X : List Int) (e j : Nat) (P R : Int) : Int := sT P R (nth X (j + e + 1)) (nth X (j + e))
def u0 (X : List Int) (e j : Nat) (P R : Int) : Int := sT P R (nth X (j + e)) (wb X (j + e))

section
variable {X y : List Int} {e j : Nat} {P R high : Int} {k : Nat}

theorem rem_nonneg (H : Rem X y e j P R high k) : 0 ≤ rem0 X e j high := by
  have h1 := pw_pos (j + e + 2)
  have h2 := Int.mul_nonneg H.h.1 (show 0 ≤ pw (j + e + 2) by omega)
  have h3 := (pre_bound H.w (j + e + 2)).1
  unfold rem0; omega

theorem rem_three (X : List Int) (e j : Nat) (high : Int) : rem0 X e j high = ((high * 18446744073709551616 + nth X (j + e + 1)) * 18446744073709551616 + nth X (j + e)) * pw (j + e) + pre X (j + e) := by
  have p2 : pw (j + e + 2) = 18446744073709551616 * (18446744073709551616 * pw (j + e)) := rfl
  have p1 : pw (j + e + 1) = 18446744073709551616 * pw (j + e) := rfl
  unfold rem0
  rw [pre_succ' X (j + e + 1), pre_succ' X (j + e), p2, p1]
  generalize pw (j + e) = p
  generalize nth X (j + e + 1) = b
  generalize nth X (j + e) = c
  rw [Int.add_mul, Int.add_mul, Int.add_mul]
  have x1 : high * (18446744073709551616 * (18446744073709551616 * p)) = high * 18446744073709551616 * 18446744073709551616 * p := by
    rw [← Int.mul_assoc, ← Int.mul_assoc]
  have x2 : b * (18446744073709551616 * p) = b * 18446744073709551616 * p := by rw [← Int.mul_assoc]
  omega

/-- V P is below pw (e + 2), and the shifted remainder below pw (j + e + 3). -/
theorem high_fits (H : Rem X y e j P R high k) : 0 ≤ high * P ∧ high * P < 18446744073709551616 := by
  have D := H.D
  have hp := D.p
  have t := D.top
  have hv1 := D.v1_word; have hv0 := D.v0_word
  obtain ⟨a1, b1⟩ := hv1; obtain ⟨a0, b0⟩ := hv0
  have hpe := pw_pos e
  have hVP : val y * P < pw (e + 2) := by
    have := lt_mul_div (val y * P) (pw e) hpe
    rw [t] at this
    have h2 : (v1 y e P R * 18446744073709551616 + v0 y e P R + 1) * pw e ≤ 340282366920938463463374607431768211456 * pw e := Int.mul_le_mul_of_nonneg_right (by omega) (by omega)
    have p2 : pw (e + 2) = 18446744073709551616 * (18446744073709551616 * pw e) := rfl
    omega
  have hpj := pw_pos (j + 1)
  have hlt : rem0 X e j high * P < val y * pw (j + 1) * P := Int.mul_lt_mul_of_pos_right H.lt hp
  have h3 : val y * P * pw (j + 1) < pw (e + 2) * pw (j + 1) := Int.mul_lt_mul_of_pos_right hVP hpj
  rw [← pw_add, show e + 2 + (j + 1) = j + e + 2 + 1 by omega, pw_succ (j + e + 2)] at h3
  rw [Int.mul_right_comm] at hlt
  have h4 : high * pw (j + e + 2) * P ≤ rem0 X e j high * P := Int.mul_le_mul_of_nonneg_right (by unfold rem0; have := (pre_bound H.w (j + e + 2)).1; omega) (by omega)
  rw [Int.mul_right_comm] at h4
  refine ⟨Int.mul_nonneg H.h.1 (by omega), ?_⟩
  refine Int.not_le.1 fun hge => ?_
  have : 18446744073709551616 * pw (j + e + 2) ≤ high * P * pw (j + e + 2) := Int.mul_le_mul_of_nonneg_right hge (by have := pw_pos (j + e + 2); omega)
  omega

theorem rem_top (H : Rem X y e j P R high k) : rem0 X e j high * P / pw (j + e) = (u2 X e j P R high * 18446744073709551616 + u1 X e j P R) * 18446744073709551616 + u0 X e j P R := by
  have D := H.D
  have f := high_fits H
  rw [div_top (pw_pos (j + e)) (rem_three X e j high), shift_low H.w P R D.p D.r D.pr]
  exact (three_shift P R _ _ _ _ D.p D.r D.pr f.1 f.2).symm

theorem u2_word (H : Rem X y e j P R high k) : Word (u2 X e j P R high) := sT_word P R _ _ k H.D.k H.D.p H.D.r H.D.pr H.h.1 (nth_word H.w _)
theorem u1_word (H : Rem X y e j P R high k) : Word (u1 X e j P R) := sT_word P R _ _ k H.D.k H.D.p H.D.r H.D.pr (nth_word H.w _).1 (nth_word H.w _)
theorem u0_word (H : Rem X y e j P R high k) : Word (u0 X e j P R) := sT_word P R _ _ k H.D.k H.D.p H.D.r H.D.pr (nth_word H.w _).1 (wb_word H.w _)

/-- The shifted remainder's top is below (V' + 1) times the base. -/
theorem u_lt (H : Rem X y e j P R high k) : (u2 X e j P R high * 18446744073709551616 + u1 X e j P R) * 18446744073709551616 + u0 X e j P R < (v1 y e P R * 18446744073709551616 + v0 y e P R + 1) * 18446744073709551616 := by
  have D := H.D
  have hp := D.p
  rw [← rem_top H]
  refine (Int.ediv_lt_iff_lt_mul (pw_pos (j + e))).2 ?_
  have hlt : rem0 X e j high * P < val y * pw (j + 1) * P := Int.mul_lt_mul_of_pos_right H.lt hp
  have h2 := lt_mul_div (val y * P) (pw e) (pw_pos e)
  rw [D.top] at h2
  have h3 : val y * P * pw (j + 1) ≤ (v1 y e P R * 18446744073709551616 + v0 y e P R + 1) * pw e * pw (j + 1) := Int.mul_le_mul_of_nonneg_right (by omega) (by have := pw_pos (j + 1); omega)
  rw [Int.mul_assoc _ (pw e), ← pw_add, show e + (j + 1) = j + e + 1 by omega, pw_succ (j + e), ← Int.mul_assoc _ 18446744073709551616] at h3
  rw [Int.mul_right_comm] at hlt
  omega
theorem u2_le (H : Rem X y e j P R high k) : u2 X e j P R high ≤ v1 y e P R := by
  have h := u_lt H
  have h1 := (u1_word H).1; have h0 := (u0_word H).1
  have := H.D.v0_word.2
  omega

/-- THE TRUE QUOTIENT WORD. -/
def quo (X y : List Int) (e j : Nat) (high : Int) : Int := rem0 X e j high / (val y * pw j)

theorem den_pos (H : Rem X y e j P R high k) : 0 < val y * pw j := Int.mul_pos H.D.pos.1 (pw_pos j)
theorem quo_word (H : Rem X y e j P R high k) : Word (quo X y e j high) := by
  refine ⟨Int.ediv_nonneg (rem_nonneg H) (by have := den_pos H; omega), ?_⟩
  refine (Int.ediv_lt_iff_lt_mul (den_pos H)).2 ?_
  have := H.lt
  rw [pw_succ j, Int.mul_left_comm] at this
  exact this
theorem quo_le (H : Rem X y e j P R high k) : quo X y e j high * (val y * pw j) ≤ rem0 X e j high := mul_div_le _ _ (den_pos H)
theorem quo_gt (H : Rem X y e j P R high k) : rem0 X e j high < (quo X y e j high + 1) * (val y * pw j) := lt_mul_div _ _ (den_pos H)

/-- The estimate is not below the true word. -/
theorem est_ge (H : Rem X y e j P R high k) : quo X y e j high ≤ est (u2 X e j P R high) (u1 X e j P R) (u0 X e j P R) (v1 y e P R) (v0 y e P R) := by
  have D := H.D
  have hp := D.p
  have hw := quo_word H
  obtain ⟨q0, q1⟩ := hw
  have hV' : 0 < v1 y e P R * 18446744073709551616 + v0 y e P R := by have := D.v1_top; have := D.v0_word.1; omega
  unfold est
  have : quo X y e j high ≤ ((u2 X e j P R high * 18446744073709551616 + u1 X e j P R) * 18446744073709551616 + u0 X e j P R) / (v1 y e P R * 18446744073709551616 + v0 y e P R) := by
    refine (Int.le_ediv_iff_mul_le hV').2 ?_
    rw [← rem_top H, ← D.top]
    refine (Int.le_ediv_iff_mul_le (pw_pos (j + e))).2 ?_
    have h1 : val y * P / pw e * pw e ≤ val y * P := mul_div_le _ _ (pw_pos e)
    have h2 : val y * P / pw e * pw e * pw j ≤ val y * P * pw j := Int.mul_le_mul_of_nonneg_right h1 (by have := pw_pos j; omega)
    have h3 : quo X y e j high * (val y * P / pw e * pw e * pw j) ≤ quo X y e j high * (val y * P * pw j) := Int.mul_le_mul_of_nonneg_left h2 q0
    have h4 : quo X y e j high * (val y * pw j) * P ≤ rem0 X e j high * P := Int.mul_le_mul_of_nonneg_right (quo_le H) (by omega)
    have x1 : quo X y e j high * (val y * P / pw e) * pw (j + e) = quo X y e j high * (val y * P / pw e * pw e * pw j) := by
      rw [pw_add, Int.mul_assoc, Int.mul_comm (pw j), ← Int.mul_assoc (val y * P / pw e)]
    have x2 : quo X y e j high * (val y * pw j) * P = quo X y e j high * (val y * P * pw j) := by
      rw [Int.mul_assoc, Int.mul_right_comm (val y)]
    omega
  omega

/-- .. and at most one above it. -/
theorem est_le (H : Rem X y e j P R high k) : est (u2 X e j P R high) (u1 X e j P R) (u0 X e j P R) (v1 y e P R) (v0 y e P R) ≤ quo X y e j high + 1 := by
  have D := H.D
  have hp := D.p
  have hV' : 0 < v1 y e P R * 18446744073709551616 + v0 y e P R := by have := D.v1_top; have := D.v0_word.1; omega
  obtain ⟨t, ht⟩ : ∃ t, t = est (u2 X e j P R high) (u1 X e j P R) (u0 X e j P R) (v1 y e P R) (v0 y e P R) := ⟨_, rfl⟩
  rw [← ht]
  have t1 : t ≤ ((u2 X e j P R high * 18446744073709551616 + u1 X e j P R) * 18446744073709551616 + u0 X e j P R) / (v1 y e P R * 18446744073709551616 + v0 y e P R) := by rw [ht]; unfold est; omega
  have t2 : t ≤ 18446744073709551615 := by rw [ht]; unfold est; omega
  have t0 : 0 ≤ t := by rw [ht]; exact (est_word _ _ _ _ _ (u2_word H) (u1_word H) (u0_word H) D.v1_word D.v0_word).1
  have t3 := (Int.le_ediv_iff_mul_le hV').1 t1
  rw [← rem_top H] at t3
  have t4 := (Int.le_ediv_iff_mul_le (pw_pos (j + e))).1 t3
  -- V P is below (V' + 1) pw e
  have h2 := lt_mul_div (val y * P) (pw e) (pw_pos e)
  rw [D.top] at h2
  obtain ⟨V', hV⟩ : ∃ V', V' = v1 y e P R * 18446744073709551616 + v0 y e P R := ⟨_, rfl⟩
  rw [← hV] at t4 h2 hV'
  have hV2 : 18446744073709551616 ≤ V' := by rw [hV]; have := D.v1_top; have := D.v0_word.1; omega
  have h1 : V' * pw e ≤ val y * P := by rw [hV, ← D.top]; exact mul_div_le _ _ (pw_pos e)
  -- t V P pw j ≤ R0 P + t pw e pw j < R0 P + V P pw j
  have hpe := pw_pos e; have hpj := pw_pos j
  have a1 : val y * P * pw j ≤ (V' + 1) * pw e * pw j := Int.mul_le_mul_of_nonneg_right (by omega) (by omega)
  have a2 : t * (val y * P * pw j) ≤ t * ((V' + 1) * pw e * pw j) := Int.mul_le_mul_of_nonneg_left a1 t0
  have x1 : t * ((V' + 1) * pw e * pw j) = t * V' * pw (j + e) + t * (pw e * pw j) := by
    rw [pw_add, Int.mul_assoc (V' + 1), Int.add_mul, Int.one_mul, Int.mul_add, Int.mul_comm (pw j), Int.mul_assoc t]
  have a3 : t * (pw e * pw j) ≤ 18446744073709551615 * (pw e * pw j) := Int.mul_le_mul_of_nonneg_right t2 (by have := Int.mul_pos hpe hpj; omega)
  have a4 : V' * pw e * pw j ≤ val y * P * pw j := Int.mul_le_mul_of_nonneg_right h1 (by omega)
  have a5 : 18446744073709551616 * (pw e * pw j) ≤ V' * (pw e * pw j) := Int.mul_le_mul_of_nonneg_right hV2 (by have := Int.mul_pos hpe hpj; omega)
  have a6 := Int.mul_pos hpe hpj
  rw [Int.mul_assoc V'] at a4
  have a7 : t * (val y * P * pw j) < rem0 X e j high * P + val y * P * pw j := by omega
  -- divide by P
  have a8 : (t - 1) * (val y * pw j) < rem0 X e j high := by
    have x2 : (t - 1) * (val y * pw j) * P = t * (val y * P * pw j) - val y * P * pw j := by
      rw [Int.sub_mul, Int.sub_mul, Int.one_mul, Int.mul_assoc t, Int.mul_right_comm (val y)]
    have : (t - 1) * (val y * pw j) * P < rem0 X e j high * P := by omega
    exact Int.lt_of_mul_lt_mul_right this (by omega)
  have := (Int.le_ediv_iff_mul_le (den_pos H)).2 (Int.le_of_lt a8)
  unfold quo
  omega

/-- Nothing in the top word, and the next below the divisor's: the quotient word is 0, and nothing was on top. -/
theorem skip_zero (H : Rem X y e j P R high k) (h2 : u2 X e j P R high = 0) (h1 : u1 X e j P R < v1 y e P R) : high = 0 ∧ rem0 X e j high < val y * pw j := by
  have D := H.D
  have hp := D.p
  have f := high_fits H
  constructor
  · unfold u2 sT at h2
    rw [Int.emod_eq_of_lt f.1 f.2] at h2
    have hb : 0 ≤ nth X (j + e + 1) / R := Int.ediv_nonneg (nth_word H.w _).1 (by have := D.r; omega)
    have hz : high * P = 0 := by omega
    rcases Int.mul_eq_zero.1 hz with h | h
    · exact h
    · omega
  · have t := rem_top H
    rw [h2] at t
    have h3 := lt_mul_div (rem0 X e j high * P) (pw (j + e)) (pw_pos _)
    rw [t] at h3
    have h0 := (u0_word H).2
    have h4 : ((0 * 18446744073709551616 + u1 X e j P R) * 18446744073709551616 + u0 X e j P R + 1) * pw (j + e) ≤ (v1 y e P R * 18446744073709551616 + v0 y e P R) * pw (j + e) := Int.mul_le_mul_of_nonneg_right (by have := D.v0_word.1; omega) (by have := pw_pos (j + e); omega)
    have h5 : val y * P / pw e * pw e ≤ val y * P := mul_div_le _ _ (pw_pos e)
    rw [D.top] at h5
    have h6 : (v1 y e P R * 18446744073709551616 + v0 y e P R) * pw e * pw j ≤ val y * P * pw j := Int.mul_le_mul_of_nonneg_right h5 (by have := pw_pos j; omega)
    rw [Int.mul_assoc _ (pw e), Int.mul_comm (pw e), ← pw_add] at h6
    have h7 : rem0 X e j high * P < val y * pw j * P := by
      rw [Int.mul_right_comm]
      omega
    exact Int.lt_of_mul_lt_mul_right h7 (by omega)
end

end Go.Proofs.Qxb6620824a.Plain
