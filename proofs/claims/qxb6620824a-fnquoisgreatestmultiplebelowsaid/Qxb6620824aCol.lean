/-
  THE COLUMN PRODUCT, PLAIN: the three-word accumulator; columns; their sum is the product.
-/
import Derived.Test.Qxb6620824aVal
set_option linter.unusedVariables false
namespace Go.Proofs.Qxb6620824a.Plain

/-- The three words of T. -/
def t0 (T : Int) : Int := T % 18446744073709551616
def t1 (T : Int) : Int := T / 18446744073709551616 % 18446744073709551616
def t2 (T : Int) : Int := T / 18446744073709551616 / 18446744073709551616

theorem t_sum (T : Int) : t0 T + t1 T * 18446744073709551616 + t2 T * 340282366920938463463374607431768211456 = T := by unfold t0 t1 t2; omega
theorem t_of (T a b c : Int) (ha : Word a) (hb : Word b) (h : a + b * 18446744073709551616 + c * 340282366920938463463374607431768211456 = T) : a = t0 T ∧ b = t1 T ∧ c = t2 T := by
  obtain ⟨_, _⟩ := ha; obtain ⟨_, _⟩ := hb
  have h0 : T % 18446744073709551616 = a := by omega
  have h1 : T / 18446744073709551616 = b + c * 18446744073709551616 := by omega
  unfold t0 t1 t2
  refine ⟨h0.symm, ?_, ?_⟩ <;> rw [h1] <;> omega
theorem t0_word (T : Int) : Word (t0 T) := by unfold t0 Word; omega
theorem t1_word (T : Int) : Word (t1 T) := by unfold t1 Word; omega
theorem t2_small (T : Int) (h0 : 0 ≤ T) (h : T < 340282366920938463463374607431768211456000000) : 0 ≤ t2 T ∧ t2 T < 1000000 := by unfold t2; omega
/-- One column down. -/
theorem t_down (T : Int) (h0 : 0 ≤ T) (h : T < 340282366920938463463374607431768211456000000) : t0 (T / 18446744073709551616) = t1 T ∧ t1 (T / 18446744073709551616) = t2 T ∧ t2 (T / 18446744073709551616) = 0 := by
  unfold t0 t1 t2
  have h1 : T / 18446744073709551616 < 18446744073709551616000000 := by omega
  have h2 : 0 ≤ T / 18446744073709551616 := by omega
  generalize T / 18446744073709551616 = U at *
  refine ⟨rfl, ?_, ?_⟩ <;> omega

/-- The first i terms of column k. -/
def col (x y : List Int) (k : Nat) : Nat → Int
  | 0 => 0
  | i + 1 => col x y k i + if i ≤ k then nth x i * nth y (k - i) else 0
/-- The first k columns, each of i terms. -/
def csum (x y : List Int) (i : Nat) : Nat → Int
  | 0 => 0
  | k + 1 => csum x y i k + col x y k i * pw k

theorem nth_beyond (l : List Int) (k : Nat) (h : l.length ≤ k) : nth l k = 0 := by
  unfold nth; rw [List.getD_eq_getElem?_getD, List.getElem?_eq_none (by omega)]; rfl

/-- y, i places up. -/
def up (y : List Int) (i : Nat) : Nat → Int
  | 0 => 0
  | k + 1 => up y i k + (if i ≤ k then nth y (k - i) else 0) * pw k

theorem up_low (y : List Int) (i : Nat) : ∀ k, k ≤ i → up y i k = 0
  | 0, _ => rfl
  | k + 1, h => by rw [up, up_low y i k (by omega), if_neg (by omega)]; omega
theorem up_high (y : List Int) (i : Nat) : ∀ d, up y i (i + d) = pw i * pre y d
  | 0 => by rw [Nat.add_zero, up_low y i i (Nat.le_refl _), pre_zero]; omega
  | d + 1 => by
    show up y i (i + d) + (if i ≤ i + d then nth y (i + d - i) else 0) * pw (i + d) = _
    rw [up_high y i d, if_pos (by omega), Nat.add_sub_cancel_left, pre_succ', pw_add, Int.mul_add, Int.mul_left_comm (pw i)]

theorem csum_succ (x y : List Int) (i : Nat) : ∀ k, csum x y (i + 1) k = csum x y i k + nth x i * up y i k
  | 0 => by simp [csum, up]
  | k + 1 => by
    rw [csum, csum, csum_succ x y i k, up, col, Int.add_mul, Int.mul_add]
    have : (if i ≤ k then nth x i * nth y (k - i) else 0) * pw k = nth x i * ((if i ≤ k then nth y (k - i) else 0) * pw k) := by
      split
      · rw [Int.mul_assoc]
      · simp
    rw [this]
    omega
theorem csum_zero (x y : List Int) : ∀ k, csum x y 0 k = 0
  | 0 => rfl
  | k + 1 => by rw [csum, csum_zero x y k, col]; omega

theorem csum_all (x y : List Int) (K : Nat) : ∀ i, i + y.length ≤ K → csum x y i K = pre x i * val y
  | 0, _ => by rw [csum_zero, pre_zero]; omega
  | i + 1, h => by
    obtain ⟨d, rfl⟩ : ∃ d, K = i + d := ⟨K - i, by omega⟩
    rw [csum_succ, csum_all x y _ i (by omega), up_high, pre_more y d (by omega), pre_succ', Int.add_mul, Int.mul_assoc]

theorem term_bound {x y : List Int} (hx : Words x) (hy : Words y) (i j : Nat) : 0 ≤ nth x i * nth y j ∧ nth x i * nth y j ≤ 340282366920938463463374607431768211456 := by
  have := mul_words _ _ (nth_word hx i) (nth_word hy j)
  omega
theorem col_bound {x y : List Int} (hx : Words x) (hy : Words y) (k : Nat) : ∀ i : Nat, 0 ≤ col x y k i ∧ col x y k i ≤ (i : Int) * 340282366920938463463374607431768211456
  | 0 => by simp [col]
  | i + 1 => by
    have ih := col_bound hx hy k i
    have hb := term_bound hx hy i (k - i)
    rw [col]
    split <;> omega

/-- x y + a stays below the base to the power n + 1. -/
theorem total_bound {x y a : List Int} (hx : Words x) (hy : Words y) (ha : Words a) (n : Nat) (h1 : x.length + y.length ≤ n) (h2 : a.length ≤ n) : 0 ≤ val x * val y + val a ∧ val x * val y + val a < pw (n + 1) := by
  obtain ⟨a1, b1⟩ := val_bound hx; obtain ⟨a2, b2⟩ := val_bound hy; obtain ⟨a3, b3⟩ := val_bound ha
  have p1 := pw_le h1; have p2 := pw_le h2
  rw [pw_add] at p1
  have q1 := Int.mul_nonneg a1 a2
  have q2 : val x * val y ≤ pw x.length * pw y.length := Int.mul_le_mul (by omega) (by omega) a2 (by omega)
  have := pw_pos n
  rw [pw_succ]
  omega

/-- The columns' end: nothing is left in the accumulator. -/
theorem col_end {out : List Int} (ho : Words out) (K : Nat) (T P : Int) (hT : 0 ≤ T) (h : pre out K + T * pw K = P) (hP : P < pw K) : pre out K = P := by
  have hb := pre_bound ho K
  have hp := pw_pos K
  have : T = 0 := by
    refine Int.le_antisymm (Int.not_lt.1 fun h1 => ?_) hT
    have : 1 * pw K ≤ T * pw K := Int.mul_le_mul_of_nonneg_right (by omega) (by omega)
    omega
  subst this
  omega

/-- One column. -/
theorem col_step (out : List Int) (k : Nat) (T T' S c : Int) (hk : k < out.length) (h : pre out k + T * pw k = S) (hT : T' = T + c) :
    pre (out.set k (t0 T')) (k + 1) + T' / 18446744073709551616 * pw (k + 1) = S + c * pw k := by
  rw [pre_succ', pre_set_ge _ _ _ k (Nat.le_refl _), nth_set_same _ _ _ hk, pw_succ]
  have e : t0 T' = T' - T' / 18446744073709551616 * 18446744073709551616 := by unfold t0; omega
  rw [e, Int.sub_mul, ← Int.mul_assoc (T' / 18446744073709551616), hT, Int.add_mul]
  omega

end Go.Proofs.Qxb6620824a.Plain
