/-
  THE PLAIN MATHEMATICS OF nat.estimate: three words by two. No Go in sight.
-/
import Derived.Test.Qxb6620824aMath2
set_option linter.unusedVariables false
namespace Go.Proofs.Qxb6620824a.Plain

/-- A word. -/
def Word (x : Int) : Prop := 0 ≤ x ∧ x < 18446744073709551616

/-- The quotient word of (u2:u1:u0) by (v1:v0), at most the largest word. -/
def est (u2 u1 u0 v1 v0 : Int) : Int := min (((u2 * 18446744073709551616 + u1) * 18446744073709551616 + u0) / (v1 * 18446744073709551616 + v0)) 18446744073709551615

/-- The estimate's state. -/
structure Est (u2 u1 u0 v1 v0 q r : Int) : Prop where
  e : q * v1 + r = u2 * 18446744073709551616 + u1
  lo : est u2 u1 u0 v1 v0 ≤ q
  q0 : 0 ≤ q
  q1 : q < 18446744073709551616
  r0 : 0 ≤ r
  r1 : r < 18446744073709551616

theorem est_word (u2 u1 u0 v1 v0 : Int) (h2 : Word u2) (h1 : Word u1) (h0 : Word u0) (k1 : Word v1) (k0 : Word v0) : Word (est u2 u1 u0 v1 v0) := by
  obtain ⟨a2, b2⟩ := h2; obtain ⟨a1, b1⟩ := h1; obtain ⟨a0, b0⟩ := h0; obtain ⟨c1, d1⟩ := k1; obtain ⟨c0, d0⟩ := k0
  have : 0 ≤ ((u2 * 18446744073709551616 + u1) * 18446744073709551616 + u0) / (v1 * 18446744073709551616 + v0) := Int.ediv_nonneg (by omega) (by omega)
  unfold est Word
  omega

theorem mH_mL (x y : Int) : mH x y * 18446744073709551616 + mL x y = x * y := by
  unfold mH mL; omega
theorem mul_words (x y : Int) (hx : Word x) (hy : Word y) : 0 ≤ x * y ∧ x * y ≤ 18446744073709551615 * 18446744073709551615 := by
  obtain ⟨a, b⟩ := hx; obtain ⟨c, d⟩ := hy
  exact ⟨Int.mul_nonneg a c, Int.mul_le_mul (by omega) (by omega) c (by decide)⟩
theorem mH_word (x y : Int) (hx : Word x) (hy : Word y) : 0 ≤ mH x y ∧ mH x y ≤ 18446744073709551614 := by
  have := mul_words x y hx hy
  unfold mH; omega
theorem mL_word (x y : Int) : Word (mL x y) := by unfold mL Word; omega

/-- Leaving the loop, or never entering it: 'q V ≤ U' and q is a word: q is the estimate. -/
theorem est_is (u2 u1 u0 v1 v0 q r : Int) (hv1 : 0 < v1) (hv0 : 0 ≤ v0) (e : q * v1 + r = u2 * 18446744073709551616 + u1) (lo : est u2 u1 u0 v1 v0 ≤ q) (q1 : q < 18446744073709551616)
    (h : q * v0 ≤ r * 18446744073709551616 + u0) : q = est u2 u1 u0 v1 v0 := by
  have hV : 0 < v1 * 18446744073709551616 + v0 := by omega
  have t := est_test 18446744073709551616 v1 v0 (u2 * 18446744073709551616 + u1) u0 q r e
  have : q ≤ ((u2 * 18446744073709551616 + u1) * 18446744073709551616 + u0) / (v1 * 18446744073709551616 + v0) := (Int.le_ediv_iff_mul_le hV).2 (by omega)
  unfold est at lo ⊢
  omega

/-- The remainder has outgrown the word: 'q V ≤ U'. -/
theorem est_big (v0 u0 q r : Int) (hv0 : Word v0) (hq : 0 ≤ q) (q1 : q < 18446744073709551616) (h0 : 0 ≤ u0) (hr : 18446744073709551616 ≤ r) : q * v0 ≤ r * 18446744073709551616 + u0 := by
  have := (mul_words q v0 ⟨hq, q1⟩ hv0).2
  omega

theorem est_step (u2 u1 u0 v1 v0 q r : Int) (h0 : Word u0) (hv1 : 0 < v1) (hv0 : 0 ≤ v0) (H : Est u2 u1 u0 v1 v0 q r) (h : r * 18446744073709551616 + u0 < q * v0) :
    (q - 1) * v1 + (r + v1) = u2 * 18446744073709551616 + u1 ∧ est u2 u1 u0 v1 v0 ≤ q - 1 ∧ 0 ≤ q - 1 ∧ q - 1 < 18446744073709551616 := by
  have hV : 0 < v1 * 18446744073709551616 + v0 := by omega
  have t := est_test 18446744073709551616 v1 v0 (u2 * 18446744073709551616 + u1) u0 q r H.e
  have hlt : ((u2 * 18446744073709551616 + u1) * 18446744073709551616 + u0) / (v1 * 18446744073709551616 + v0) < q := (Int.ediv_lt_iff_lt_mul hV).2 (by omega)
  have q1 := H.q1; have q0 := H.q0; have r0 := H.r0; have e := H.e
  have hq : q ≠ 0 := by
    intro h'
    subst h'
    rw [Int.zero_mul] at h
    have := h0.1
    omega
  refine ⟨?_, ?_, by omega, by omega⟩
  · rw [Int.sub_mul, Int.one_mul]; omega
  · unfold est; omega

theorem est_start_div (u2 u1 u0 v1 v0 : Int) (h2 : 0 ≤ u2) (h1 : Word u1) (h0 : Word u0) (hv1 : Word v1) (hv0 : 0 ≤ v0) (h : u2 < v1) : Est u2 u1 u0 v1 v0 (dQ u2 u1 v1) (dR u2 u1 v1) := by
  obtain ⟨a1, b1⟩ := h1; obtain ⟨a0, b0⟩ := h0; obtain ⟨c1, d1⟩ := hv1
  have hu : 0 ≤ u2 * 18446744073709551616 + u1 := by omega
  have f := est_first 18446744073709551616 v1 v0 (u2 * 18446744073709551616 + u1) u0 (by decide) (by omega) hv0 hu b0
  have e := Int.mul_ediv_add_emod (u2 * 18446744073709551616 + u1) v1
  have n := Int.emod_nonneg (u2 * 18446744073709551616 + u1) (show v1 ≠ 0 by omega)
  have l := Int.emod_lt_of_pos (u2 * 18446744073709551616 + u1) (show 0 < v1 by omega)
  have g : (u2 * 18446744073709551616 + u1) / v1 < 18446744073709551616 := quo_lt_base _ _ _ (by omega) (by omega)
  have g0 : 0 ≤ (u2 * 18446744073709551616 + u1) / v1 := Int.ediv_nonneg hu (by omega)
  rw [Int.mul_comm] at e
  unfold dQ dR
  exact ⟨e, by unfold est; omega, g0, g, n, by omega⟩

theorem est_start_top (u1 u0 v1 v0 : Int) (h1 : Word u1) (hv1 : Word v1) (h : u1 + v1 < 18446744073709551616) : Est v1 u1 u0 v1 v0 18446744073709551615 (u1 + v1) := by
  obtain ⟨a1, b1⟩ := h1; obtain ⟨c1, d1⟩ := hv1
  exact ⟨by omega, by unfold est; omega, by omega, by omega, by omega, by omega⟩

theorem est_top (u1 u0 v1 v0 : Int) (h1 : Word u1) (h0 : Word u0) (hv1 : Word v1) (hv0 : Word v0) (hp : 0 < v1) (h : 18446744073709551616 ≤ u1 + v1) : est v1 u1 u0 v1 v0 = 18446744073709551615 := by
  obtain ⟨c1, d1⟩ := hv1
  refine (est_is v1 u1 u0 v1 v0 18446744073709551615 (u1 + v1) hp hv0.1 (by omega) (by unfold est; omega) (by omega) (est_big v0 u0 _ _ hv0 (by omega) (by omega) h0.1 h)).symm

end Go.Proofs.Qxb6620824a.Plain
