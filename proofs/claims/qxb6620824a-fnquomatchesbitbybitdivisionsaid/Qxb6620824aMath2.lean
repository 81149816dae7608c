/-
  THE PLAIN MATHEMATICS OF math/bits.Div64: two words by one, by half words. No Go in sight.
-/
import Derived.Test.Qxb6620824aMath
import Derived.Lib.ItoaNum
import Derived.Laws.Bits64b
set_option linter.unusedVariables false
namespace Go.Proofs.Qxb6620824a.Plain

/-- How far a word is shifted so that its top bit is set. -/
def lz (x : Int) : Int := 64 - (Lib.bitLen x.toNat : Int)

theorem lz_bounds (y : Int) (h0 : 0 < y) (h1 : y < 18446744073709551616) : 0 ≤ lz y ∧ lz y < 64 ∧ 9223372036854775808 ≤ y * 2 ^ (lz y).toNat ∧ y * 2 ^ (lz y).toNat < 18446744073709551616 := by
  obtain ⟨n, rfl⟩ := Int.eq_ofNat_of_zero_le (Int.le_of_lt h0)
  have hn : (n : Int).toNat = n := by simp
  obtain ⟨b1, b2, b3⟩ := Lib.bitLenAux_bounds 64 n (by omega) (by omega)
  have b4 : Lib.bitLenAux 64 n ≤ 64 := Lib.bitLen_le n 64 (by omega) (by omega)
  have hb : Lib.bitLen n = Lib.bitLenAux 64 n := rfl
  unfold lz
  rw [hn, hb]
  generalize Lib.bitLenAux 64 n = k at *
  have e1 : (64 - (k : Int)).toNat = 64 - k := by omega
  have p : 2 ^ k * 2 ^ (64 - k) = 18446744073709551616 := by
    rw [← Nat.pow_add, show k + (64 - k) = 64 by omega]
  have p' : 2 ^ (k - 1) * 2 ^ (64 - k) = 9223372036854775808 := by
    rw [← Nat.pow_add, show k - 1 + (64 - k) = 63 by omega]
  have c1 : n * 2 ^ (64 - k) < 2 ^ k * 2 ^ (64 - k) := Nat.mul_lt_mul_of_pos_right b3 (Nat.pow_pos (by decide))
  have c2 : 2 ^ (k - 1) * 2 ^ (64 - k) ≤ n * 2 ^ (64 - k) := Nat.mul_le_mul_right _ b2
  rw [e1]
  have e2 : ((n * 2 ^ (64 - k) : Nat) : Int) = (n : Int) * 2 ^ (64 - k) := by simp
  rw [← e2]
  omega

/-- Shifted words: a's high part stands above b's. -/
theorem or_add (k : Nat) (a b : Int) (ha : 0 ≤ a) (hb : 0 ≤ b) (hb' : b < 2 ^ k) (h1 : a * 2 ^ k < 18446744073709551616) (h2 : b < 18446744073709551616) : bits .or .u64 (a * 2 ^ k) b = a * 2 ^ k + b := by
  obtain ⟨a, rfl⟩ := Int.eq_ofNat_of_zero_le ha
  obtain ⟨b, rfl⟩ := Int.eq_ofNat_of_zero_le hb
  have e : (a : Int) * 2 ^ k = ((a * 2 ^ k : Nat) : Int) := by simp
  have hb'' : b < 2 ^ k := by
    have : ((2 ^ k : Nat) : Int) = (2 : Int) ^ k := by simp
    rw [← this] at hb'
    omega
  rw [e] at h1 ⊢
  rw [bits_or_u64_nat (a * 2 ^ k) b (by omega) (by omega), Nat.mul_comm, ← Nat.two_pow_add_eq_or_of_lt hb'']
  simp

theorem mask32 (a : Int) (h0 : 0 ≤ a) (h1 : a < 18446744073709551616) : bits .and .u64 a 4294967295 = a % 4294967296 := by
  obtain ⟨a, rfl⟩ := Int.eq_ofNat_of_zero_le h0
  have h := bits_and_u64_nat a 4294967295 (by omega) (by omega)
  have e : a &&& 4294967295 = a % 4294967296 := Nat.and_two_pow_sub_one_eq_mod a 32
  rw [e] at h
  simpa using h

/-- What the shift makes of the dividend: (hi:lo) 2^s = (un32:un10), and un32 is below the shifted divisor. -/
theorem div_shift (hi lo y : Int) (k : Nat) (hk : k ≤ 64) (hh : 0 ≤ hi) (hl : 0 ≤ lo) (hl' : lo < 18446744073709551616) (hy : hi < y) (hY : y * 2 ^ k < 18446744073709551616) :
    lo / 2 ^ (64 - k) < 2 ^ k ∧ 0 ≤ lo / 2 ^ (64 - k) ∧ hi * 2 ^ k < 18446744073709551616 ∧ 0 ≤ hi * 2 ^ k ∧ hi * 2 ^ k + lo / 2 ^ (64 - k) < y * 2 ^ k ∧
      (hi * 18446744073709551616 + lo) * 2 ^ k = (hi * 2 ^ k + lo / 2 ^ (64 - k)) * 18446744073709551616 + lo * 2 ^ k % 18446744073709551616 := by
  have hp : (0 : Int) < 2 ^ k := Int.pow_pos (by decide)
  have hr : (0 : Int) < 2 ^ (64 - k) := Int.pow_pos (by decide)
  have hpr : (2 : Int) ^ k * 2 ^ (64 - k) = 18446744073709551616 := by
    rw [← Int.pow_add, show k + (64 - k) = 64 by omega]; rfl
  generalize (2 : Int) ^ k = P at *
  generalize (2 : Int) ^ (64 - k) = R at *
  have hq : 0 ≤ lo / R := Int.ediv_nonneg hl (by omega)
  have hq' : lo / R < P := (Int.ediv_lt_iff_lt_mul hr).2 (by omega)
  have hhP : 0 ≤ hi * P := Int.mul_nonneg hh (by omega)
  have hle : (hi + 1) * P ≤ y * P := Int.mul_le_mul_of_nonneg_right (by omega) (by omega)
  rw [Int.add_mul, Int.one_mul] at hle
  have hd : lo * P / 18446744073709551616 = lo / R := by
    rw [← hpr, Int.mul_comm lo P]
    exact Int.mul_ediv_mul_of_pos lo R hp
  have hm : lo * P = 18446744073709551616 * (lo * P / 18446744073709551616) + lo * P % 18446744073709551616 := (Int.mul_ediv_add_emod _ _).symm
  rw [hd] at hm
  refine ⟨hq', hq, by omega, hhP, by omega, ?_⟩
  rw [Int.add_mul, Int.add_mul, Int.mul_right_comm]
  omega

/-- The two half quotients together. -/
theorem div_join (a y Y P Q1 Q0 un32 un21 un1 un0 R2 : Int) (hP : 0 < P) (hy : 0 < y) (hY : Y = y * P) (ha : a * P = un32 * 18446744073709551616 + (un1 * 4294967296 + un0))
    (h1 : un32 * 4294967296 + un1 = Q1 * Y + un21) (h2 : un21 * 4294967296 + un0 = Q0 * Y + R2) (hR : 0 ≤ R2) (hR' : R2 < Y) : Q1 * 4294967296 + Q0 = a / y ∧ R2 / P = a % y := by
  have hA : a * P = (Q1 * 4294967296 + Q0) * Y + R2 := by
    have e : Q1 * Y * 4294967296 = Q1 * 4294967296 * Y := Int.mul_right_comm _ _ _
    rw [Int.add_mul]
    omega
  have hYp : 0 < Y := by omega
  have k1 : a * P / Y = Q1 * 4294967296 + Q0 := by
    rw [hA]
    refine div_eq_of _ _ _ hYp (by omega) ?_
    rw [Int.add_mul (Q1 * 4294967296 + Q0) 1 Y, Int.one_mul]
    omega
  have k2 : a * P % Y = R2 := by
    have := Int.mul_ediv_add_emod (a * P) Y
    rw [k1, Int.mul_comm Y] at this
    omega
  rw [hY] at k1 k2
  rw [Int.mul_ediv_mul_of_pos_left a y hP] at k1
  rw [Int.mul_comm a P, Int.mul_comm y P, Int.mul_emod_mul_of_pos a y hP, Int.mul_comm P] at k2
  refine ⟨k1.symm, ?_⟩
  rw [← k2]
  exact Int.mul_ediv_cancel _ (by omega)

/-- ONE HALF QUOTIENT's state: what the loop keeps. B = 2^32. -/
structure Half (un u0 yn1 yn0 q r : Int) : Prop where
  e : q * yn1 + r = un
  lo : (un * 4294967296 + u0) / (yn1 * 4294967296 + yn0) ≤ q
  q0 : 0 ≤ q
  q1 : q ≤ 4294967297
  r0 : 0 ≤ r
  r1 : r < 4294967296

theorem half_first (un u0 yn1 yn0 : Int) (hu : 0 ≤ un) (hu0 : 0 ≤ u0) (hu1 : u0 < 4294967296) (hy1 : 2147483648 ≤ yn1) (hy1' : yn1 < 4294967296) (hy0 : 0 ≤ yn0) (hy0' : yn0 < 4294967296) (h : un < yn1 * 4294967296 + yn0) :
    Half un u0 yn1 yn0 (un / yn1) (un - un / yn1 * yn1) := by
  have a1 := mul_div_le un yn1 (by omega)
  have a2 := lt_mul_div un yn1 (by omega)
  rw [Int.add_mul, Int.one_mul] at a2
  refine ⟨by omega, est_first 4294967296 yn1 yn0 un u0 (by decide) (by omega) hy0 hu hu1, Int.ediv_nonneg hu (by omega), ?_, by omega, by omega⟩
  have : un / yn1 < 4294967298 := (Int.ediv_lt_iff_lt_mul (by omega)).2 (by omega)
  omega

theorem half_nowrap (un u0 yn1 yn0 q r : Int) (hy0 : 0 ≤ yn0) (hy0' : yn0 < 4294967296) (H : Half un u0 yn1 yn0 q r) : 0 ≤ q * yn0 ∧ q * yn0 < 18446744073709551616 := by
  have h1 : 0 ≤ q * yn0 := Int.mul_nonneg H.q0 hy0
  have h2 : q * yn0 ≤ 4294967297 * 4294967295 := Int.mul_le_mul H.q1 (by omega) hy0 (by decide)
  omega

/-- The test says yes: one down. -/
theorem half_down (un u0 yn1 yn0 q r : Int) (hy1 : 2147483648 ≤ yn1) (hy1' : yn1 < 4294967296) (hy0 : 0 ≤ yn0) (hy0' : yn0 < 4294967296) (hu0 : 0 ≤ u0) (hu1 : u0 < 4294967296) (h : un < yn1 * 4294967296 + yn0) (H : Half un u0 yn1 yn0 q r)
    (ht : 4294967296 ≤ q ∨ 4294967296 * r + u0 < q * yn0) : (q - 1) * yn1 + (r + yn1) = un ∧ (un * 4294967296 + u0) / (yn1 * 4294967296 + yn0) ≤ q - 1 ∧ 0 ≤ q - 1 ∧ q - 1 ≤ 4294967296 := by
  have hV : 0 < yn1 * 4294967296 + yn0 := by omega
  have e := H.e; have q0 := H.q0; have q1 := H.q1; have r0 := H.r0
  have hlo : (un * 4294967296 + u0) / (yn1 * 4294967296 + yn0) ≤ q - 1 := by
    refine est_down _ _ _ hV H.lo ?_
    rcases ht with ht | ht
    · have : 4294967296 * (yn1 * 4294967296 + yn0) ≤ q * (yn1 * 4294967296 + yn0) := Int.mul_le_mul_of_nonneg_right ht (by omega)
      omega
    · have := est_test 4294967296 yn1 yn0 un u0 q r e
      omega
  have hN : 0 ≤ (un * 4294967296 + u0) / (yn1 * 4294967296 + yn0) := by
    have hun : 0 ≤ un := by have := Int.mul_nonneg q0 (show 0 ≤ yn1 by omega); omega
    exact Int.ediv_nonneg (by omega) (by omega)
  refine ⟨?_, hlo, by omega, by omega⟩
  rw [Int.sub_mul, Int.one_mul]
  omega

/-- The test says no: q is the quotient. -/
theorem half_exit (un u0 yn1 yn0 q r : Int) (hy1 : 2147483648 ≤ yn1) (hy0 : 0 ≤ yn0) (H : Half un u0 yn1 yn0 q r)
    (h2 : q * yn0 ≤ 4294967296 * r + u0) : q = (un * 4294967296 + u0) / (yn1 * 4294967296 + yn0) := by
  refine est_done _ _ _ (by omega) H.lo ?_
  have := est_test 4294967296 yn1 yn0 un u0 q r H.e
  omega

/-- The break: the remainder has outgrown the half word: q is the quotient. -/
theorem half_break (un u0 yn1 yn0 q r : Int) (hy1 : 2147483648 ≤ yn1) (hy0 : 0 ≤ yn0) (hy0' : yn0 < 4294967296) (hu0 : 0 ≤ u0) (e : q * yn1 + r = un) (lo : (un * 4294967296 + u0) / (yn1 * 4294967296 + yn0) ≤ q) (q0 : 0 ≤ q) (q1 : q ≤ 4294967296)
    (hr : 4294967296 ≤ r) : q = (un * 4294967296 + u0) / (yn1 * 4294967296 + yn0) := by
  refine est_done _ _ _ (by omega) lo ?_
  have h1 : q * yn0 ≤ 4294967296 * 4294967295 := Int.mul_le_mul q1 (by omega) hy0 (by decide)
  have := est_test 4294967296 yn1 yn0 un u0 q r e
  omega

/-- What is left of one half: 'un B + u0 - q Y', reckoned with wraps. -/
theorem half_rest (un u0 Y : Int) (hY : 0 < Y) (hY' : Y ≤ 18446744073709551616) :
    (((un * 4294967296) % 18446744073709551616 + u0) % 18446744073709551616 - ((un * 4294967296 + u0) / Y * Y) % 18446744073709551616) % 18446744073709551616 = (un * 4294967296 + u0) % Y := by
  have h1 := Int.mul_ediv_add_emod (un * 4294967296 + u0) Y
  have h2 := Int.emod_nonneg (un * 4294967296 + u0) (show Y ≠ 0 by omega)
  have h3 := Int.emod_lt_of_pos (un * 4294967296 + u0) hY
  rw [Int.mul_comm] at h1
  omega

end Go.Proofs.Qxb6620824a.Plain
