/-
  THE PLAIN MATHEMATICS OF THE SEAT: no Go in sight. Natural numbers and integers; a quotient word estimated from the top (3 by 2), the 128 by 64 division.
-/
set_option linter.unusedVariables false
namespace Go.Proofs.Qxb6620824a.Plain

/-! ### The words of the library, under names that no simp opens -/
/-- x + y + c: the low word; the carry. -/
def aS (x y c : Int) : Int := (x + y + c) % 18446744073709551616
def aC (x y c : Int) : Int := (x + y + c) / 18446744073709551616
/-- x - y - c: the low word; the borrow. -/
def sS (x y c : Int) : Int := (x - y - c) % 18446744073709551616
def sB (x y c : Int) : Int := if x < y + c then 1 else 0
/-- x * y: the high word; the low word. -/
def mH (x y : Int) : Int := x * y / 18446744073709551616
def mL (x y : Int) : Int := x * y % 18446744073709551616
/-- (hi:lo) / y, (hi:lo) % y. -/
def dQ (hi lo y : Int) : Int := (hi * 18446744073709551616 + lo) / y
def dR (hi lo y : Int) : Int := (hi * 18446744073709551616 + lo) % y

/-- The quotient is known by its two bounds. -/
theorem div_eq_of (n d q : Int) (hd : 0 < d) (h1 : q * d ≤ n) (h2 : n < (q + 1) * d) : n / d = q := by
  have a : q ≤ n / d := (Int.le_ediv_iff_mul_le hd).2 h1
  have b : n / d < q + 1 := (Int.ediv_lt_iff_lt_mul hd).2 h2
  omega

theorem mul_div_le (n d : Int) (hd : 0 < d) : n / d * d ≤ n := Int.ediv_mul_le n (by omega)
theorem lt_mul_div (n d : Int) (hd : 0 < d) : n < (n / d + 1) * d := by
  rw [Int.add_mul, Int.one_mul]
  have h1 := Int.mul_ediv_add_emod n d
  have h2 := Int.emod_lt_of_pos n hd
  have h3 : d * (n / d) = n / d * d := Int.mul_comm _ _
  omega

/-- The estimate's state: q and r over the base b: 'q * v1 + r = u', and the true quotient of (u b + u0) by (v1 b + v0) is not above q. -/
theorem est_test (b v1 v0 u u0 q r : Int) (e : q * v1 + r = u) : q * (v1 * b + v0) - (u * b + u0) = q * v0 - (r * b + u0) := by
  subst e
  rw [Int.mul_add, Int.add_mul, Int.mul_assoc]
  omega

/-- q is too large: one less is still not below the true quotient. -/
theorem est_down (V N q : Int) (hV : 0 < V) (h : N / V ≤ q) (h1 : N < q * V) : N / V ≤ q - 1 := by
  have : N / V < q := (Int.ediv_lt_iff_lt_mul hV).2 h1
  omega

theorem est_done (V N q : Int) (hV : 0 < V) (h : N / V ≤ q) (h1 : q * V ≤ N) : q = N / V := by
  have : q ≤ N / V := (Int.le_ediv_iff_mul_le hV).2 h1
  omega

/-- The first guess: u / v1 is not below the quotient of (u b + u0) by (v1 b + v0). -/
theorem est_first (b v1 v0 u u0 : Int) (hb : 0 < b) (hv1 : 0 < v1) (hv0 : 0 ≤ v0) (hu : 0 ≤ u) (h0 : u0 < b) : (u * b + u0) / (v1 * b + v0) ≤ u / v1 := by
  have hV : 0 < v1 * b + v0 := by have := Int.mul_pos hv1 hb; omega
  have h1 : u < (u / v1 + 1) * v1 := lt_mul_div u v1 hv1
  have hq : 0 ≤ u / v1 := Int.ediv_nonneg hu (by omega)
  have : (u * b + u0) / (v1 * b + v0) < u / v1 + 1 := by
    refine (Int.ediv_lt_iff_lt_mul hV).2 ?_
    have h2 : (u + 1) * b ≤ (u / v1 + 1) * v1 * b := Int.mul_le_mul_of_nonneg_right (by omega) (by omega)
    have h3 : 0 ≤ (u / v1 + 1) * v0 := Int.mul_nonneg (by omega) hv0
    rw [Int.add_mul, Int.one_mul] at h2
    rw [Int.mul_add, ← Int.mul_assoc]
    omega
  omega

theorem quo_lt_base (b V N : Int) (hV : 0 < V) (h : N < b * V) : N / V < b := (Int.ediv_lt_iff_lt_mul hV).2 h

end Go.Proofs.Qxb6620824a.Plain
