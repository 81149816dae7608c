/-
  nat.MulAdd, PLAIN: the first row, the later rows, the rest of a.
-/
import Derived.Test.Qxb6620824aSmall
import Derived.Test.Qxb6620824aCol
set_option linter.unusedVariables false
namespace Go.Proofs.Qxb6620824a
open Plain

/-- The first row: k words are done; c is the carry. -/
structure Row1 (X A Z : List Int) (y : Int) (k : Nat) (c : Int) : Prop where
  sum : pre Z k + c * pw k = pre X k * y + pre A k
  car : Word c

theorem Row1.start (X A Z : List Int) (y : Int) : Row1 X A Z y 0 0 := ⟨by simp [pre_zero], word_zero⟩
theorem Row1.next {X A Z : List Int} {y : Int} {k : Nat} {c : Int} (h : Row1 X A Z y k c) (hk : k < Z.length) (hX : Words X) (hA : Words A) (hy : Word y) :
    Row1 X A (Z.set k (maL (nth X k) y (nth A k) c)) y (k + 1) (maH (nth X k) y (nth A k) c) := by
  refine ⟨?_, maH_word (nth_word hX k) hy (nth_word hA k) h.car⟩
  have e := ma_split (nth X k) y (nth A k) c
  have s := h.sum
  rw [pre_succ', pre_set_ge _ _ _ k (Nat.le_refl _), nth_set_same _ _ _ hk, pw_succ, pre_succ' X, pre_succ' A, Int.add_mul]
  generalize maL (nth X k) y (nth A k) c = l at *
  generalize maH (nth X k) y (nth A k) c = g at *
  have e' : l = nth X k * y + nth A k + c - g * 18446744073709551616 := by omega
  rw [e', Int.sub_mul, Int.add_mul, Int.add_mul, Int.mul_assoc g, Int.mul_right_comm (nth X k) (pw k) y]
  omega

/-- Rows 0 .. j - 1 are in: z's first nX + j words say X Y[:j] + A; c is the word on top. -/
structure RowsIn (X Y A Z : List Int) (j : Nat) (c : Int) : Prop where
  sum : pre Z (X.length + j) = val X * pre Y j + val A
  top : nth Z (X.length + j - 1) = c
  car : Word c

theorem RowsIn.first {X Y A Z : List Int} {c : Int} (h : Row1 X A Z (nth Y 0) X.length c) (hk : X.length < Z.length) (hA : A.length ≤ X.length) : RowsIn X Y A (Z.set X.length c) 1 c := by
  refine ⟨?_, by rw [Nat.add_sub_cancel]; exact nth_set_same _ _ _ hk, h.car⟩
  have s := h.sum
  rw [pre_all, pre_more A _ hA] at s
  rw [pre_succ', pre_set_ge _ _ _ _ (Nat.le_refl _), nth_set_same _ _ _ hk, pre_succ' Y 0, pre_zero]
  simp only [pw]
  rw [show (0 : Int) + nth Y 0 * 1 = nth Y 0 by omega]
  omega

/-- Row j, i words in; V: what stood there before the row. -/
structure RowJ (X Z : List Int) (y V : Int) (j i : Nat) (c : Int) : Prop where
  sum : pre Z (X.length + j) + c * pw (j + i) = V + pre X i * y * pw j
  car : Word c

theorem RowJ.start {X Z : List Int} {y V : Int} {j : Nat} (h : pre Z (X.length + j) = V) : RowJ X Z y V j 0 0 := ⟨by simp [pre_zero, h], word_zero⟩
theorem RowJ.next {X Z : List Int} {y V : Int} {j i : Nat} {c : Int} (h : RowJ X Z y V j i c) (hi : i < X.length) (hk : X.length + j ≤ Z.length) (hX : Words X) (hZ : Words Z) (hy : Word y) :
    RowJ X (Z.set (j + i) (maL (nth X i) y (nth Z (j + i)) c)) y V j (i + 1) (maH (nth X i) y (nth Z (j + i)) c) := by
  refine ⟨?_, maH_word (nth_word hX i) hy (nth_word hZ _) h.car⟩
  have e := ma_split (nth X i) y (nth Z (j + i)) c
  have s := h.sum
  rw [pre_set_lt _ _ _ (by omega) _ (by omega), show j + (i + 1) = j + i + 1 by omega, pw_succ, pre_succ' X, Int.add_mul (pre X i), Int.add_mul (pre X i * y), Int.mul_right_comm (nth X i) (pw i) y, Int.mul_assoc (nth X i * y), Int.mul_comm (pw i) (pw j), ← pw_add]
  generalize maL (nth X i) y (nth Z (j + i)) c = l at *
  generalize maH (nth X i) y (nth Z (j + i)) c = g at *
  have e' : l - nth Z (j + i) = nth X i * y + c - g * 18446744073709551616 := by omega
  rw [e', Int.sub_mul, Int.add_mul, Int.mul_assoc g]
  omega
theorem RowJ.done {X Y A Z : List Int} {j : Nat} {c : Int} (h : RowJ X Z (nth Y j) (val X * pre Y j + val A) j X.length c) (hk : X.length + j < Z.length) : RowsIn X Y A (Z.set (X.length + j) c) (j + 1) c := by
  refine ⟨?_, by rw [← Nat.add_assoc, Nat.add_sub_cancel]; exact nth_set_same _ _ _ hk, h.car⟩
  have s := h.sum
  rw [pre_all, Nat.add_comm j] at s
  rw [← Nat.add_assoc, pre_succ', pre_set_ge _ _ _ _ (Nat.le_refl _), nth_set_same _ _ _ hk, pre_succ' Y, Int.mul_add, ← Int.mul_assoc]
  omega

/-- a is no longer than X: the answer's top. -/
theorem top_norm {X Y A Z : List Int} {c : Int} (h : RowsIn X Y A Z Y.length c) (hX : Words X) (hY : Words Y) (hA : Words A) (hZ : Words Z) (nX : Norm X) (nY : Norm Y) (h1 : 0 < Y.length) (h2 : 0 < X.length) (hl : X.length + Y.length ≤ Z.length) :
    (c = 0 → val (Z.take (X.length + Y.length - 1)) = val X * val Y + val A ∧ Norm (Z.take (X.length + Y.length - 1))) ∧
    (c ≠ 0 → val (Z.take (X.length + Y.length)) = val X * val Y + val A ∧ Norm (Z.take (X.length + Y.length))) := by
  have s := h.sum
  rw [pre_all] at s
  refine ⟨fun hc => ?_, fun hc => ⟨s, norm_take _ _ hl (.inr (by rw [h.top]; exact hc))⟩⟩
  obtain ⟨n, hn⟩ : ∃ n, X.length + Y.length = n + 2 := ⟨X.length + Y.length - 2, by omega⟩
  have e1 : X.length + Y.length - 1 = n + 1 := by omega
  rw [e1]
  have s1 : pre Z (n + 1) = val X * val Y + val A := by
    rw [← s, hn, pre_succ' Z (n + 1)]
    have := h.top
    rw [hn, show n + 2 - 1 = n + 1 by omega] at this
    rw [this, hc]; omega
  refine ⟨s1, norm_take _ _ (by omega) (.inr ?_)⟩
  rw [Nat.add_sub_cancel]
  intro hz
  have b := pre_bound hZ n
  rw [pre_succ', hz] at s1
  have g1 := norm_ge hX nX h2
  have g2 := norm_ge hY nY h1
  have g3 : pw (X.length - 1) * pw (Y.length - 1) ≤ val X * val Y := Int.mul_le_mul g1 g2 (by have := pw_pos (Y.length - 1); omega) (by have := pw_pos (X.length - 1); omega)
  rw [← pw_add, show X.length - 1 + (Y.length - 1) = n by omega] at g3
  have := (val_bound hA).1
  omega

/-- The rest of a is added: i words of a are in. -/
structure RestIn (A Z : List Int) (P : Int) (n i : Nat) (c : Int) : Prop where
  sum : pre Z (max n i) + c * pw i = P + pre A i
  c0 : 0 ≤ c
  c1 : c ≤ 1

theorem aC_bit (x y c : Int) (hx : Word x) (hy : Word y) (h0 : 0 ≤ c) (h1 : c ≤ 1) : 0 ≤ aC x y c ∧ aC x y c ≤ 1 := by
  obtain ⟨_, _⟩ := hx; obtain ⟨_, _⟩ := hy
  unfold aC; omega
theorem a_split (x y c : Int) : aC x y c * 18446744073709551616 + aS x y c = x + y + c := by unfold aC aS; omega
theorem aS_wd (x y c : Int) : Word (aS x y c) := by unfold aS Word; omega

theorem RestIn.start {X Y A Z : List Int} {c : Int} (h : RowsIn X Y (A.take X.length) Z Y.length c) (hY : 0 < Y.length) : RestIn A Z (val X * val Y) (X.length + Y.length) X.length 0 := by
  refine ⟨?_, by decide, by decide⟩
  have s := h.sum
  rw [pre_all, pre_take] at s
  rw [Nat.max_eq_left (by omega), s]
  omega
theorem RestIn.low {A Z : List Int} {P : Int} {n i : Nat} {c : Int} (h : RestIn A Z P n i c) (hi : i < n) (hk : n ≤ Z.length) (hA : Words A) (hZ : Words Z) :
    RestIn A (Z.set i (aS (nth Z i) (nth A i) c)) P n (i + 1) (aC (nth Z i) (nth A i) c) := by
  have b := aC_bit _ _ _ (nth_word hZ i) (nth_word hA i) h.c0 h.c1
  refine ⟨?_, b.1, b.2⟩
  have e := a_split (nth Z i) (nth A i) c
  have s := h.sum
  rw [Nat.max_eq_left (by omega)] at s
  rw [Nat.max_eq_left (by omega), pre_set_lt _ _ _ (by omega) _ hi, pw_succ, pre_succ' A]
  generalize aS (nth Z i) (nth A i) c = l at *
  generalize aC (nth Z i) (nth A i) c = g at *
  have e' : l - nth Z i = nth A i + c - g * 18446744073709551616 := by omega
  rw [e', Int.sub_mul, Int.add_mul, Int.mul_assoc g]
  omega
theorem RestIn.high {A Z : List Int} {P : Int} {n i : Nat} {c : Int} (h : RestIn A Z P n i c) (hi : n ≤ i) (hk : i < Z.length) (hA : Words A) :
    RestIn A (Z.set i (aS 0 (nth A i) c)) P n (i + 1) (aC 0 (nth A i) c) := by
  have b := aC_bit _ _ _ word_zero (nth_word hA i) h.c0 h.c1
  refine ⟨?_, b.1, b.2⟩
  have e := a_split 0 (nth A i) c
  have s := h.sum
  rw [Nat.max_eq_right hi] at s
  rw [Nat.max_eq_right (by omega), pre_succ' (Z.set _ _), pre_set_ge _ _ _ _ (Nat.le_refl _), nth_set_same _ _ _ hk, pw_succ, pre_succ' A]
  generalize aS 0 (nth A i) c = l at *
  generalize aC 0 (nth A i) c = g at *
  have e' : l = nth A i + c - g * 18446744073709551616 := by omega
  rw [e', Int.sub_mul, Int.add_mul, Int.mul_assoc g]
  omega

/-- The carry goes on up: from i. -/
structure Up (Z : List Int) (S : Int) (M i : Nat) (c : Int) : Prop where
  sum : pre Z M + c * pw i = S
  c0 : 0 ≤ c
  c1 : c ≤ 1
theorem Up.start {A Z : List Int} {P : Int} {n na : Nat} {c : Int} (h : RestIn A Z P n na c) (hl : A.length = na) : Up Z (P + val A) (max n na) na c := by
  refine ⟨?_, h.c0, h.c1⟩
  have s := h.sum
  rw [pre_more A na (by omega)] at s
  exact s
theorem Up.next {Z : List Int} {S : Int} {M i : Nat} {c : Int} (h : Up Z S M i c) (hi : i < M) (hk : M ≤ Z.length) (hZ : Words Z) : Up (Z.set i (aS (nth Z i) 0 c)) S M (i + 1) (aC (nth Z i) 0 c) := by
  have b := aC_bit _ _ _ (nth_word hZ i) word_zero h.c0 h.c1
  refine ⟨?_, b.1, b.2⟩
  have e := a_split (nth Z i) 0 c
  have s := h.sum
  rw [pre_set_lt _ _ _ (by omega) _ hi, pw_succ]
  generalize aS (nth Z i) 0 c = l at *
  generalize aC (nth Z i) 0 c = g at *
  have e' : l - nth Z i = c - g * 18446744073709551616 := by omega
  rw [e', Int.sub_mul, Int.mul_assoc g]
  omega
theorem Up.over {Z : List Int} {S : Int} {M : Nat} {c : Int} (h : Up Z S M M c) (hc : c ≠ 0) (hk : M < Z.length) : val ((Z.set M c).take (M + 1)) = S ∧ Norm ((Z.set M c).take (M + 1)) := by
  refine ⟨?_, norm_take _ _ (by rw [List.length_set]; omega) (.inr (by rw [Nat.add_sub_cancel, nth_set_same _ _ _ hk]; exact hc))⟩
  rw [pre_take, pre_succ', pre_set_ge _ _ _ _ (Nat.le_refl _), nth_set_same _ _ _ hk]
  exact h.sum

end Go.Proofs.Qxb6620824a
