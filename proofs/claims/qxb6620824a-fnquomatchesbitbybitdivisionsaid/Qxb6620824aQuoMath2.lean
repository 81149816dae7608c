/-
  nat.Quo, PLAIN: taking q times the divisor away, adding it back, the invariant of the long division; one-word division.
-/
import Derived.Test.Qxb6620824aQuoMath
set_option linter.unusedVariables false
namespace Go.Proofs.Qxb6620824a.Plain

theorem s_split (x y : Int) (hx : Word x) (hy : Word y) : sS x y 0 = x - y + sB x y 0 * 18446744073709551616 ∧ 0 ≤ sB x y 0 ∧ sB x y 0 ≤ 1 := by
  obtain ⟨_, _⟩ := hx; obtain ⟨_, _⟩ := hy
  unfold sS sB
  split <;> omega
theorem sS_wd (x y c : Int) : Word (sS x y c) := by unfold sS Word; omega
theorem aS_wd' (x y c : Int) : Word (aS x y c) := by unfold aS Word; omega
theorem a_split' (x y c : Int) : aC x y c * 18446744073709551616 + aS x y c = x + y + c := by unfold aC aS; omega
theorem aC_bit' (x y c : Int) (hx : Word x) (hy : Word y) (h0 : 0 ≤ c) (h1 : c ≤ 1) : 0 ≤ aC x y c ∧ aC x y c ≤ 1 := by
  obtain ⟨_, _⟩ := hx; obtain ⟨_, _⟩ := hy
  unfold aC; omega
theorem aC_word (x y : Int) (hx : Word x) (hy : Word y) : 0 ≤ aC x y 0 ∧ aC x y 0 ≤ 1 := aC_bit' x y 0 hx hy (by decide) (by decide)

/-- The new carry: high word, carry, borrow. -/
def nc (q v c x : Int) : Int := mH q v + aC (mL q v) c 0 + sB x (aS (mL q v) c 0) 0

/-- One word of 'x - q y': nothing wraps. -/
theorem sub_word (q v c x : Int) (hq : Word q) (hv : Word v) (hc : Word c) (hx : Word x) :
    0 ≤ mH q v + aC (mL q v) c 0 ∧ mH q v + aC (mL q v) c 0 < 18446744073709551616 ∧ 0 ≤ nc q v c x ∧ nc q v c x < 18446744073709551616 ∧
      sS x (aS (mL q v) c 0) 0 - nc q v c x * 18446744073709551616 = x - c - q * v := by
  have h := mul_words q v hq hv
  have e := mH_mL q v
  have hL := mL_word q v
  have e2 := a_split' (mL q v) c 0
  have b2 := aC_word (mL q v) c hL hc
  have w2 := aS_wd' (mL q v) c 0
  have e3 := s_split x (aS (mL q v) c 0) hx w2
  have hs : aS (mL q v) c 0 = 0 → sB x (aS (mL q v) c 0) 0 = 0 := fun h0 => by
    rw [h0]; unfold sB; rw [if_neg (by have := hx.1; omega)]
  unfold nc
  generalize aS (mL q v) c 0 = s at *
  generalize aC (mL q v) c 0 = k at *
  generalize sB x s 0 = b at *
  generalize sS x s 0 = d at *
  generalize mH q v = H at *
  generalize mL q v = L at *
  generalize q * v = Q at *
  obtain ⟨_, _⟩ := hc; obtain ⟨_, _⟩ := hx; obtain ⟨_, _⟩ := w2; obtain ⟨f1, f2, f3⟩ := e3
  have g : H + k ≤ 18446744073709551615 := by omega
  have g2 : H + k = 18446744073709551615 → s = 0 := fun h' => by omega
  by_cases h' : H + k = 18446744073709551615
  · have := hs (g2 h')
    refine ⟨by omega, by omega, by omega, by omega, by omega⟩
  · refine ⟨by omega, by omega, by omega, by omega, by omega⟩

/-- q times y's first i words are taken from x's words from j on. n: y's length. -/
structure SubJ (X y : List Int) (q G : Int) (j i : Nat) (c : Int) : Prop where
  sum : pre X (j + y.length) - c * pw (j + i) = G - q * pre y i * pw j
  car : Word c

theorem SubJ.start {X y : List Int} {q : Int} {j : Nat} : SubJ X y q (pre X (j + y.length)) j 0 0 := ⟨by simp [pre_zero], word_zero⟩
theorem SubJ.next {X y : List Int} {q G : Int} {j i : Nat} {c : Int} (h : SubJ X y q G j i c) (hi : i < y.length) (hl : j + y.length ≤ X.length) (hX : Words X) (hy : Words y) (hq : Word q) :
    SubJ (X.set (j + i) (sS (nth X (j + i)) (aS (mL q (nth y i)) c 0) 0)) y q G j (i + 1) (nc q (nth y i) c (nth X (j + i))) := by
  obtain ⟨_, _, n0, n1, e⟩ := sub_word q (nth y i) c (nth X (j + i)) hq (nth_word hy i) h.car (nth_word hX _)
  refine ⟨?_, n0, n1⟩
  have s := h.sum
  rw [pre_set_lt _ _ _ (by omega) _ (by omega), show j + (i + 1) = j + i + 1 by omega, pw_succ, pre_succ' y, Int.mul_add, Int.add_mul, ← Int.mul_assoc q, Int.mul_assoc (q * nth y i), Int.mul_comm (pw i) (pw j), ← pw_add]
  generalize sS (nth X (j + i)) (aS (mL q (nth y i)) c 0) 0 = d at *
  generalize nc q (nth y i) c (nth X (j + i)) = g at *
  have e' : d - nth X (j + i) = g * 18446744073709551616 - c - q * nth y i := by omega
  rw [e', Int.sub_mul, Int.sub_mul, Int.mul_assoc g]
  omega

/-- y's first i words are added to x's words from j on. -/
structure AddJ (X y : List Int) (G : Int) (j i : Nat) (c : Int) : Prop where
  sum : pre X (j + y.length) + c * pw (j + i) = G + pre y i * pw j
  c0 : 0 ≤ c
  c1 : c ≤ 1
theorem AddJ.start {X y : List Int} {j : Nat} : AddJ X y (pre X (j + y.length)) j 0 0 := ⟨by simp [pre_zero], by decide, by decide⟩
theorem AddJ.next {X y : List Int} {G : Int} {j i : Nat} {c : Int} (h : AddJ X y G j i c) (hi : i < y.length) (hl : j + y.length ≤ X.length) (hX : Words X) (hy : Words y) :
    AddJ (X.set (j + i) (aS (nth X (j + i)) (nth y i) c)) y G j (i + 1) (aC (nth X (j + i)) (nth y i) c) := by
  have b := aC_bit' _ _ _ (nth_word hX (j + i)) (nth_word hy i) h.c0 h.c1
  have e := a_split' (nth X (j + i)) (nth y i) c
  refine ⟨?_, b.1, b.2⟩
  have s := h.sum
  rw [pre_set_lt _ _ _ (by omega) _ (by omega), show j + (i + 1) = j + i + 1 by omega, pw_succ, pre_succ' y, Int.add_mul, Int.mul_assoc (nth y i), Int.mul_comm (pw i) (pw j), ← pw_add]
  generalize aS (nth X (j + i)) (nth y i) c = d at *
  generalize aC (nth X (j + i)) (nth y i) c = g at *
  have e' : d - nth X (j + i) = nth y i + c - g * 18446744073709551616 := by omega
  rw [e', Int.sub_mul, Int.add_mul, Int.mul_assoc g]
  omega

section
variable {X X' X'' y : List Int} {e j : Nat} {P R high c c2 qh : Int} {k : Nat}

theorem left_small (H : Rem X y e j P R high k) : 0 ≤ rem0 X e j high - quo X y e j high * (val y * pw j) ∧ rem0 X e j high - quo X y e j high * (val y * pw j) < val y * pw j ∧ val y * pw j < pw (j + e + 2) := by
  have a := quo_le H
  have b := quo_gt H
  rw [Int.add_mul, Int.one_mul] at b
  have hlt := H.D.pos.2
  have d : val y * pw j < pw (e + 2) * pw j := Int.mul_lt_mul_of_pos_right hlt (pw_pos j)
  rw [← pw_add, show e + 2 + j = j + e + 2 by omega] at d
  omega

theorem mul_small {p a b : Int} (hp : 0 < p) (h0 : 0 ≤ a) (h1 : a < p) (h2 : 0 ≤ a + b * p) (h3 : a + b * p < p) : b = 0 := by
  rcases Int.lt_trichotomy b 0 with h | h | h
  · have : b * p ≤ -1 * p := Int.mul_le_mul_of_nonneg_right (by omega) (by omega)
    omega
  · exact h
  · have : 1 * p ≤ b * p := Int.mul_le_mul_of_nonneg_right (by omega) (by omega)
    omega

/-- No borrow out of 'high': the estimate was the quotient word. -/
theorem sub_fits (H : Rem X y e j P R high k) (S : SubJ X' y qh (pre X (j + y.length)) j y.length c) (hX' : Words X') (h1 : quo X y e j high ≤ qh) (hc : ¬ high < c) :
    qh = quo X y e j high ∧ pre X' (j + e + 2) = rem0 X e j high - quo X y e j high * (val y * pw j) := by
  have hl := H.D.len
  have s := S.sum
  rw [pre_all, hl, show j + (e + 2) = j + e + 2 by omega, Int.mul_assoc] at s
  have hb := pre_bound hX' (j + e + 2)
  have ls := left_small H
  have hp := pw_pos (j + e + 2)
  have hden := den_pos H
  have hR : rem0 X e j high = high * pw (j + e + 2) + pre X (j + e + 2) := rfl
  have e1 : pre X' (j + e + 2) + (high - c) * pw (j + e + 2) = rem0 X e j high - qh * (val y * pw j) := by
    rw [Int.sub_mul]; omega
  have hge : 0 ≤ (high - c) * pw (j + e + 2) := Int.mul_nonneg (by omega) (by omega)
  have hq : qh = quo X y e j high := by
    refine Int.le_antisymm (Int.not_lt.1 fun h => ?_) h1
    have : (quo X y e j high + 1) * (val y * pw j) ≤ qh * (val y * pw j) := Int.mul_le_mul_of_nonneg_right (by omega) (by omega)
    rw [Int.add_mul, Int.one_mul] at this
    omega
  rw [hq] at e1
  have hz : high - c = 0 := mul_small hp hb.1 hb.2 (by omega) (by omega)
  rw [hz] at e1
  exact ⟨hq, by omega⟩

/-- A borrow out of 'high': the estimate was one above. -/
theorem sub_over (H : Rem X y e j P R high k) (S : SubJ X' y qh (pre X (j + y.length)) j y.length c) (hX' : Words X') (h1 : quo X y e j high ≤ qh) (h2 : qh ≤ quo X y e j high + 1) (hc : high < c) : qh = quo X y e j high + 1 := by
  have hl := H.D.len
  have s := S.sum
  rw [pre_all, hl, show j + (e + 2) = j + e + 2 by omega, Int.mul_assoc] at s
  have hb := pre_bound hX' (j + e + 2)
  have ls := left_small H
  have hp := pw_pos (j + e + 2)
  have hR : rem0 X e j high = high * pw (j + e + 2) + pre X (j + e + 2) := rfl
  have e1 : pre X' (j + e + 2) + (high - c) * pw (j + e + 2) = rem0 X e j high - qh * (val y * pw j) := by
    rw [Int.sub_mul]; omega
  have hneg : (high - c) * pw (j + e + 2) ≤ -1 * pw (j + e + 2) := Int.mul_le_mul_of_nonneg_right (by omega) (by omega)
  refine Int.le_antisymm h2 (Int.not_lt.1 fun h => ?_)
  have hq' : qh = quo X y e j high := by omega
  rw [hq'] at e1
  omega

/-- A borrow: the estimate was one above; the divisor is added back. -/
theorem sub_back (H : Rem X y e j P R high k) (S : SubJ X' y qh (pre X (j + y.length)) j y.length c) (A : AddJ X'' y (pre X' (j + y.length)) j y.length c2) (hX' : Words X') (hX'' : Words X'') (h1 : quo X y e j high ≤ qh) (h2 : qh ≤ quo X y e j high + 1) (hc : high < c) :
    qh - 1 = quo X y e j high ∧ pre X'' (j + e + 2) = rem0 X e j high - quo X y e j high * (val y * pw j) := by
  have hl := H.D.len
  have s := S.sum
  have t := A.sum
  rw [pre_all, hl, show j + (e + 2) = j + e + 2 by omega] at s t
  rw [Int.mul_assoc] at s
  have hb := pre_bound hX' (j + e + 2)
  have hb2 := pre_bound hX'' (j + e + 2)
  have ls := left_small H
  have hp := pw_pos (j + e + 2)
  have hden := den_pos H
  have hR : rem0 X e j high = high * pw (j + e + 2) + pre X (j + e + 2) := rfl
  have e1 : pre X' (j + e + 2) + (high - c) * pw (j + e + 2) = rem0 X e j high - qh * (val y * pw j) := by
    rw [Int.sub_mul]; omega
  have hneg : (high - c) * pw (j + e + 2) ≤ -1 * pw (j + e + 2) := Int.mul_le_mul_of_nonneg_right (by omega) (by omega)
  have hq : qh = quo X y e j high + 1 := by
    refine Int.le_antisymm h2 (Int.not_lt.1 fun h => ?_)
    have hq' : qh = quo X y e j high := by omega
    rw [hq'] at e1
    omega
  rw [hq, Int.add_mul, Int.one_mul] at e1
  have e2 : pre X'' (j + e + 2) = rem0 X e j high - quo X y e j high * (val y * pw j) + (c - high - c2) * pw (j + e + 2) := by
    rw [Int.sub_mul, Int.sub_mul]
    rw [Int.sub_mul] at e1
    omega
  have hz : c - high - c2 = 0 := mul_small (a := rem0 X e j high - quo X y e j high * (val y * pw j)) (b := c - high - c2) hp (by omega) (by omega) (by rw [← e2]; exact hb2.1) (by rw [← e2]; exact hb2.2)
  rw [hz] at e2
  exact ⟨by omega, by omega⟩
end

/-- THE LONG DIVISION's INVARIANT: t quotient words are still to come. M: how many there are in all. -/
structure QInv (X Z y : List Int) (e M t : Nat) (x0 high : Int) : Prop where
  sum : x0 = (pre Z M - pre Z t) * val y + (high * pw (t + e + 1) + pre X (t + e + 1))
  lt : high * pw (t + e + 1) + pre X (t + e + 1) < val y * pw t
  h : Word high

theorem QInv.rem {X Z y : List Int} {e M j : Nat} {x0 high P R : Int} {k : Nat} (I : QInv X Z y e M (j + 1) x0 high) (D : Div y e P R k) (hX : Words X) : Rem X y e j P R high k :=
  ⟨D, hX, I.h, by have := I.lt; rwa [show j + 1 + e + 1 = j + e + 2 by omega] at this⟩

theorem pre_diff (Z : List Int) (M j : Nat) (q : Int) (hj : j < M) (hl : M ≤ Z.length) : pre (Z.set j q) M - pre (Z.set j q) j = pre Z M - pre Z (j + 1) + q * pw j := by
  rw [pre_set_lt _ _ _ (by omega) _ hj, pre_set_ge _ _ _ _ (Nat.le_refl _), pre_succ' Z j, Int.sub_mul]
  omega

/-- One quotient word. -/
theorem QInv.next {X X' Z y : List Int} {e M j : Nat} {x0 high P R : Int} {k : Nat} (I : QInv X Z y e M (j + 1) x0 high) (H : Rem X y e j P R high k) (hX' : Words X') (hj : j < M) (hl : M ≤ Z.length)
    (hp : pre X' (j + e + 2) = rem0 X e j high - quo X y e j high * (val y * pw j)) : QInv X' (Z.set j (quo X y e j high)) y e M j x0 (nth X' (j + e + 1)) := by
  have ls := left_small H
  have hsum : nth X' (j + e + 1) * pw (j + e + 1) + pre X' (j + e + 1) = pre X' (j + e + 2) := by rw [pre_succ' X' (j + e + 1)]; omega
  refine ⟨?_, by rw [hsum, hp]; exact ls.2.1, nth_word hX' _⟩
  rw [hsum, hp, pre_diff Z M j _ hj hl, Int.add_mul]
  have := I.sum
  rw [show j + 1 + e + 1 = j + e + 2 by omega] at this
  have hR : rem0 X e j high = high * pw (j + e + 2) + pre X (j + e + 2) := rfl
  have x1 : quo X y e j high * pw j * val y = quo X y e j high * (val y * pw j) := by rw [Int.mul_assoc, Int.mul_comm (pw j)]
  omega

/-- A quotient word 0: the remainder stays. -/
theorem QInv.skip {X Z y : List Int} {e M j : Nat} {x0 P R : Int} {k : Nat} (I : QInv X Z y e M (j + 1) x0 0) (hX : Words X) (hj : j < M) (hl : M ≤ Z.length) (hp : rem0 X e j 0 < val y * pw j) : QInv X (Z.set j 0) y e M j x0 (nth X (j + e + 1)) := by
  have hR : rem0 X e j 0 = 0 * pw (j + e + 2) + pre X (j + e + 2) := rfl
  have hsum : nth X (j + e + 1) * pw (j + e + 1) + pre X (j + e + 1) = pre X (j + e + 2) := by rw [pre_succ' X (j + e + 1)]; omega
  refine ⟨?_, by rw [hsum]; omega, nth_word hX _⟩
  rw [hsum, pre_diff Z M j _ hj hl, Int.zero_mul]
  have := I.sum
  rw [show j + 1 + e + 1 = j + e + 2 by omega] at this
  rw [this, Int.add_zero]
  omega

theorem QInv.start {X Z y : List Int} {e m : Nat} {P R : Int} {k : Nat} (D : Div y e P R k) (hX : Words X) (hn : pw (e + 1) ≤ val y) : QInv X Z y e (m + 1) (m + 1) (pre X (m + 1 + e + 1)) 0 := by
  have b := pre_bound hX (m + 1 + e + 1)
  refine ⟨by omega, ?_, word_zero⟩
  have h1 : pw (e + 1) * pw (m + 1) ≤ val y * pw (m + 1) := Int.mul_le_mul_of_nonneg_right hn (by have := pw_pos (m + 1); omega)
  rw [← pw_add, show e + 1 + (m + 1) = m + 1 + e + 1 by omega] at h1
  omega

theorem QInv.done {X Z y : List Int} {e M : Nat} {x0 high : Int} (I : QInv X Z y e M 0 x0 high) (hX : Words X) (hV : 0 < val y) : pre Z M = x0 / val y := by
  have s := I.sum
  have l := I.lt
  rw [pre_zero] at s
  have n0 : 0 ≤ high * pw (0 + e + 1) := Int.mul_nonneg I.h.1 (by have := pw_pos (0 + e + 1); omega)
  have n1 := (pre_bound hX (0 + e + 1)).1
  have p0 : pw 0 = 1 := rfl
  rw [p0] at l
  refine (div_eq_of _ _ _ hV ?_ ?_).symm
  · rw [s, Int.sub_zero]; omega
  · rw [s, Int.add_mul, Int.sub_zero]; omega

/-- The quotient's top: only its top word can be 0. -/
theorem quo_norm {Z : List Int} (hZ : Words Z) (M : Nat) (q x0 v : Int) (hM : M + 1 ≤ Z.length) (h : pre Z (M + 1) = x0 / v) (hv : 0 < v) (hx : ∀ r, M = r + 1 → v * pw r ≤ x0) :
    (nth Z M = 0 → val (Z.take M) = x0 / v ∧ Norm (Z.take M)) ∧ (nth Z M ≠ 0 → val (Z.take (M + 1)) = x0 / v ∧ Norm (Z.take (M + 1))) := by
  refine ⟨fun h0 => ?_, fun h0 => ⟨h, norm_take _ _ hM (.inr (by rw [Nat.add_sub_cancel]; exact h0))⟩⟩
  have h1 : pre Z M = x0 / v := by rw [← h, pre_succ', h0]; omega
  refine ⟨h1, norm_take _ _ (by omega) ?_⟩
  cases M with
  | zero => exact .inl rfl
  | succ r =>
    refine .inr ?_
    rw [Nat.add_sub_cancel]
    intro hz
    have hb := pre_bound hZ r
    rw [pre_succ', hz] at h1
    have : pw r ≤ x0 / v := (Int.le_ediv_iff_mul_le hv).2 (by rw [Int.mul_comm]; exact hx r rfl)
    omega

/-- One-word division: t words still to come. -/
structure WInv (x Z : List Int) (d : Int) (L t : Nat) (x0 r : Int) : Prop where
  sum : x0 = (pre Z L - pre Z t) * d + (r * pw t + pre x t)
  r0 : 0 ≤ r
  r1 : r < d

theorem WInv.next {x Z : List Int} {d : Int} {L t : Nat} {x0 r : Int} (I : WInv x Z d L (t + 1) x0 r) (hx : Words x) (ht : t < L) (hl : L ≤ Z.length) : WInv x (Z.set t (dQ r (nth x t) d)) d L t x0 (dR r (nth x t) d) := by
  have hd : 0 < d := by have := I.r0; have := I.r1; omega
  have e := Int.mul_ediv_add_emod (r * 18446744073709551616 + nth x t) d
  have n := Int.emod_nonneg (r * 18446744073709551616 + nth x t) (show d ≠ 0 by omega)
  have l := Int.emod_lt_of_pos (r * 18446744073709551616 + nth x t) hd
  refine ⟨?_, n, l⟩
  have s := I.sum
  rw [pw_succ, pre_succ' x t] at s
  rw [pre_diff Z L t _ ht hl, s, Int.add_mul (pre Z L - pre Z (t + 1))]
  unfold dQ dR
  generalize (r * 18446744073709551616 + nth x t) / d = q at *
  generalize (r * 18446744073709551616 + nth x t) % d = u at *
  have e' : u = r * 18446744073709551616 + nth x t - d * q := by omega
  have x1 : q * pw t * d = d * q * pw t := by rw [Int.mul_right_comm, Int.mul_comm q d]
  have x2 : (r * 18446744073709551616 + nth x t - d * q) * pw t = r * 18446744073709551616 * pw t + nth x t * pw t - d * q * pw t := by rw [Int.sub_mul, Int.add_mul]
  have x3 : r * (18446744073709551616 * pw t) = r * 18446744073709551616 * pw t := (Int.mul_assoc _ _ _).symm
  rw [e', x2, x3]
  omega
theorem WInv.done {x Z : List Int} {d : Int} {L : Nat} {x0 r : Int} (I : WInv x Z d L 0 x0 r) : pre Z L = x0 / d := by
  have s := I.sum
  have r0 := I.r0; have r1 := I.r1
  rw [pre_zero, pre_zero] at s
  have p0 : pw 0 = 1 := rfl
  rw [p0] at s
  refine (div_eq_of _ _ _ (by omega) ?_ ?_).symm
  · rw [s, Int.sub_zero]; omega
  · rw [s, Int.add_mul, Int.sub_zero]; omega

end Go.Proofs.Qxb6620824a.Plain
