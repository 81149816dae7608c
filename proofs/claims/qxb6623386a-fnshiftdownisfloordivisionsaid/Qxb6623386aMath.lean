/-
  THE PLAIN LAW: three words moved down by k bits.
-/
import Derived.Test.Qxb6623386aBits
set_option linter.unusedVariables false
namespace Go.Proofs.Qxb6623386a
open Go.RowKit

def Word (x : Int) : Prop := 0 ≤ x ∧ x < 18446744073709551616

theorem or_add (k : Nat) (a b : Int) (ha : 0 ≤ a) (hb : 0 ≤ b) (hb' : b < 2 ^ k) (h1 : a * 2 ^ k < 18446744073709551616) (h2 : b < 18446744073709551616) : bits .or .u64 b (a * 2 ^ k) = b + a * 2 ^ k := by
  obtain ⟨a, rfl⟩ := Int.eq_ofNat_of_zero_le ha
  obtain ⟨b, rfl⟩ := Int.eq_ofNat_of_zero_le hb
  have e : (a : Int) * 2 ^ k = ((a * 2 ^ k : Nat) : Int) := by simp
  have hb'' : b < 2 ^ k := by
    have : ((2 ^ k : Nat) : Int) = (2 : Int) ^ k := by simp
    rw [← this] at hb'
    omega
  rw [e] at h1 ⊢
  rw [bits_or_u64_nat b (a * 2 ^ k) (by omega) (by omega), Nat.or_comm, Nat.mul_comm, ← Nat.two_pow_add_eq_or_of_lt hb'']
  simp
  omega

theorem pow_split (k : Nat) (h : k ≤ 64) : (2 : Int) ^ k * 2 ^ (64 - k) = 18446744073709551616 := by
  rw [← Int.pow_add, show k + (64 - k) = 64 by omega]
  decide

theorem pow_pos' (k : Nat) : (0 : Int) < 2 ^ k := Int.pow_pos (by decide)

/-- d = t M + s. -/
structure Parts (M R d t s : Int) : Prop where
  eq : d = t * M + s
  s0 : 0 ≤ s
  sM : s < M
  t0 : 0 ≤ t
  tR : t < R

theorem parts (M R d : Int) (hM : 0 < M) (hR : 0 < R) (hMR : M * R = 18446744073709551616) (hd : Word d) : Parts M R d (d / M) (d % M) := by
  refine ⟨?_, Int.emod_nonneg _ (by omega), Int.emod_lt_of_pos _ hM, Int.ediv_nonneg hd.1 (by omega), ?_⟩
  · have := Int.mul_ediv_add_emod d M
    rw [Int.mul_comm] at this
    omega
  · apply Int.ediv_lt_of_lt_mul hM
    rw [Int.mul_comm, hMR]
    exact hd.2

/-- The words of the answer, by parts. -/
theorem mixed (k : Nat) (h1 : k < 64) (d e t s u v : Int) (hd : Parts (2 ^ k) (2 ^ (64 - k)) d t s) (he : Parts (2 ^ k) (2 ^ (64 - k)) e u v) :
    bits BinOp.or IntKind.u64 u (IntKind.u64.wrap (d * 2 ^ (64 - k))) = u + s * 2 ^ (64 - k) := by
  have hMR := pow_split k (by omega)
  have hM := pow_pos' k
  have hR := pow_pos' (64 - k)
  obtain ⟨a1, a2, a3, a4, a5⟩ := hd
  obtain ⟨b1, b2, b3, b4, b5⟩ := he
  generalize hRR : (2 : Int) ^ (64 - k) = R at *
  generalize (2 : Int) ^ k = M at *
  have s1 : s * R < 18446744073709551616 := by rw [← hMR]; exact Int.mul_lt_mul_of_pos_right a3 hR
  have s2 : 0 ≤ s * R := Int.mul_nonneg a2 (by omega)
  have e1 : d * R = s * R + t * 18446744073709551616 := by rw [a1, Int.add_mul, Int.mul_assoc, hMR]; omega
  have e2 : IntKind.u64.wrap (d * R) = s * R := by rw [IntKind.wrap_u64, e1]; omega
  have R64 : R ≤ 18446744073709551616 := by
    have : 1 * R ≤ M * R := Int.mul_le_mul_of_nonneg_right (by omega) (by omega)
    omega
  rw [e2, ← hRR]
  refine or_add _ _ _ a2 b4 (by rw [hRR]; exact b5) (by rw [hRR]; exact s1) (by omega)

theorem mul_mixed (M R e u v s : Int) (hMR : M * R = 18446744073709551616) (he : Parts M R e u v) (hW : Word e) : mH (u + s * R) M = s ∧ mL (u + s * R) M = e - v := by
  obtain ⟨b1, b2, b3, b4, b5⟩ := he
  obtain ⟨w1, w2⟩ := hW
  have h : (u + s * R) * M = (e - v) + s * 18446744073709551616 := by rw [Int.add_mul, Int.mul_assoc, Int.mul_comm R M, hMR]; omega
  have n : 0 ≤ u * M := Int.mul_nonneg b4 (by omega)
  unfold mH mL
  rw [h]
  omega

theorem mul_plain (M R e u v : Int) (hMR : M * R = 18446744073709551616) (he : Parts M R e u v) (hW : Word e) : mH u M = 0 ∧ mL u M = e - v := by
  have h := mul_mixed M R e u v 0 hMR he hW
  simpa using h

theorem mixed_word (M R e u v d t s : Int) (hM : 0 < M) (hR : 0 < R) (hMR : M * R = 18446744073709551616) (he : Parts M R e u v) (hd : Parts M R d t s) : Word (u + s * R) := by
  obtain ⟨b1, b2, b3, b4, b5⟩ := he
  obtain ⟨a1, a2, a3, a4, a5⟩ := hd
  have n : 0 ≤ s * R := Int.mul_nonneg a2 (by omega)
  have m : (s + 1) * R ≤ M * R := Int.mul_le_mul_of_nonneg_right (by omega) (by omega)
  rw [Int.add_mul, hMR] at m
  exact ⟨by omega, by omega⟩

theorem rem_le (d M : Int) (hd : 0 ≤ d) (hM : 0 < M) : 0 ≤ d % M ∧ d % M ≤ d := by
  refine ⟨Int.emod_nonneg _ (by omega), ?_⟩
  have h := Int.mul_ediv_add_emod d M
  have n : 0 ≤ M * (d / M) := Int.mul_nonneg (by omega) (Int.ediv_nonneg hd (by omega))
  omega

theorem add_run (l s d : Int) (hl : 0 ≤ l) (hs : 0 ≤ s) (h : l + s = d) (hd : d < 18446744073709551616) (w : World) :
    (callFunc 6 #[.int .u64 l, .int .u64 s, .int .u64 0]).run Try.prog w = .ok (.value (.tuple #[.int .u64 d, .int .u64 0])) w := by
  rw [add64 l s 0 hl hs (by decide) (by decide)]
  have e1 : aS l s 0 = d := by unfold aS; omega
  have e2 : aC l s 0 = 0 := by unfold aC; omega
  rw [e1, e2]

theorem sub_run (x y s : Int) (hx : 0 ≤ x) (hx' : x < 18446744073709551616) (hy : 0 ≤ y) (hs : 0 ≤ s) (h : x - y = s) (w : World) :
    (callFunc 7 #[.int .u64 x, .int .u64 y, .int .u64 0]).run Try.prog w = .ok (.value (.tuple #[.int .u64 s, .int .u64 0])) w := by
  rw [sub64 x y 0 hx hy (by omega) (by decide) (by decide)]
  have e1 : sS x y 0 = s := by unfold sS; omega
  have e2 : sB x y 0 = 0 := by unfold sB; rw [if_neg (by omega)]
  rw [e1, e2]

theorem add_back (d M : Int) (hd : Word d) (hM : 0 < M) (w : World) : (callFunc 6 #[.int .u64 (d - d % M), .int .u64 (d % M), .int .u64 0]).run Try.prog w = .ok (.value (.tuple #[.int .u64 d, .int .u64 0])) w := by
  have h := rem_le d M hd.1 hM
  exact add_run _ _ _ (Int.sub_nonneg_of_le h.2) h.1 (Int.sub_add_cancel _ _) hd.2 w
theorem sub_rem (d M : Int) (hd : Word d) (hM : 0 < M) (w : World) : (callFunc 7 #[.int .u64 d, .int .u64 (d - d % M), .int .u64 0]).run Try.prog w = .ok (.value (.tuple #[.int .u64 (d % M), .int .u64 0])) w := by
  have h := rem_le d M hd.1 hM
  exact sub_run _ _ _ hd.1 hd.2 (Int.sub_nonneg_of_le h.2) h.1 (Int.sub_sub_self _ _) w
theorem sub_same (d : Int) (hd : Word d) (w : World) : (callFunc 7 #[.int .u64 d, .int .u64 d, .int .u64 0]).run Try.prog w = .ok (.value (.tuple #[.int .u64 0, .int .u64 0])) w :=
  sub_run _ _ _ hd.1 hd.2 hd.1 (Int.le_refl 0) (Int.sub_self _) w
theorem wrap_word (M : Int) (h : Word M) : IntKind.u64.wrap M = M := by
  obtain ⟨h0, h1⟩ := h
  rw [IntKind.wrap_u64]; omega
theorem div_word (d M : Int) (hd : Word d) (hM : 0 < M) : Word (d / M) := ⟨Int.ediv_nonneg hd.1 (Int.le_of_lt hM), Int.lt_of_le_of_lt (Int.ediv_le_self _ hd.1) hd.2⟩
theorem pow_word (k : Nat) (h : k < 64) : Word ((2 : Int) ^ k) := by
  refine ⟨Int.le_of_lt (pow_pos' k), ?_⟩
  rw [show (18446744073709551616 : Int) = 2 ^ 64 by decide]
  exact Int.pow_lt_pow_of_lt (by decide) h
end Go.Proofs.Qxb6623386a
