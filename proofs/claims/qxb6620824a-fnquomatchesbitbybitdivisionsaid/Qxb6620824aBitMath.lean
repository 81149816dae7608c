/-
  THE PLAIN MATHEMATICS OF THE BIT BY BIT DIVISION. No Go in sight.
-/
import Derived.Test.Qxb6620824aMath2
import Derived.Test.Qxb6620824aVal
import Derived.Test.Qxb6620824aCmp
set_option linter.unusedVariables false
namespace Go.Proofs.Qxb6620824a.Plain

/-! ### 2r + bit -/
def dbl (w c : Int) : Int := (2 * w + c) % 18446744073709551616
def dblC (w : Int) : Int := w / 9223372036854775808
theorem dbl_word (w c : Int) : Word (dbl w c) := by unfold dbl Word; omega
theorem dbl_split (w c : Int) (hw : Word w) (h0 : 0 ≤ c) (h1 : c ≤ 1) : dbl w c + 18446744073709551616 * dblC w = 2 * w + c := by
  unfold dbl dblC
  obtain ⟨a, b⟩ := hw
  omega
theorem dblC_bit (w : Int) (hw : Word w) : 0 ≤ dblC w ∧ dblC w ≤ 1 := by
  unfold dblC
  obtain ⟨a, b⟩ := hw
  omega
theorem dbl_bits (w c : Int) (hw : Word w) (h0 : 0 ≤ c) (h1 : c ≤ 1) : bits .or .u64 (IntKind.u64.wrap (w * 2)) c = dbl w c := by
  obtain ⟨a, b⟩ := hw
  have e : IntKind.u64.wrap (w * 2) = (w % 9223372036854775808) * 2 ^ 1 := by rw [IntKind.wrap_u64]; omega
  rw [e, or_add 1 _ c (by omega) h0 (by omega) (by omega) (by omega)]
  unfold dbl
  omega

structure ShI (R0 R : List Int) (bit : Int) (k : Nat) (c : Int) : Prop where
  eq : pre R k + c * pw k = 2 * pre R0 k + bit
  rest : ∀ j, k ≤ j → nth R j = nth R0 j
  c0 : 0 ≤ c
  c1 : c ≤ 1
theorem ShI.start (R : List Int) (bit : Int) (h0 : 0 ≤ bit) (h1 : bit ≤ 1) : ShI R R bit 0 bit := ⟨by simp [pre_zero, pw], fun _ _ => rfl, h0, h1⟩
theorem ShI.next {R0 R : List Int} {bit : Int} {k : Nat} {c : Int} (h : ShI R0 R bit k c) (hk : k < R.length) (hw : Word (nth R0 k)) : ShI R0 (R.set k (dbl (nth R0 k) c)) bit (k + 1) (dblC (nth R0 k)) := by
  refine ⟨?_, fun j hj => ?_, (dblC_bit _ hw).1, (dblC_bit _ hw).2⟩
  · have e := dbl_split _ c hw h.c0 h.c1
    have e2 := h.eq
    rw [pre_succ', pre_set_ge R k _ k (Nat.le_refl _), nth_set_same R k _ hk, pre_succ' R0 k, pw_succ]
    generalize dbl (nth R0 k) c = v at *
    generalize dblC (nth R0 k) = d at *
    have e3 : d * (18446744073709551616 * pw k) = 18446744073709551616 * d * pw k := by rw [Int.mul_comm 18446744073709551616 d, Int.mul_assoc]
    have e4 : v * pw k + 18446744073709551616 * d * pw k = 2 * (nth R0 k * pw k) + c * pw k := by rw [← Int.add_mul, e, Int.add_mul, Int.mul_assoc]
    rw [e3]
    omega
  · rw [nth_set_other R k j _ (by omega)]
    exact h.rest j (by omega)
theorem ShI.done {R0 R : List Int} {bit : Int} {n : Nat} {c : Int} (h : ShI R0 R bit n c) (h0 : R0.length = n) (h1 : R.length = n) (hR : Words R) (hlt : 2 * val R0 + bit < pw n) : val R = 2 * val R0 + bit := by
  have e := h.eq
  have b := pre_bound hR n
  rw [pre_more R n (by omega), pre_more R0 n (by omega)] at e
  rw [pre_more R n (by omega)] at b
  have hc := h.c0; have hc1 := h.c1
  have : c = 0 ∨ c = 1 := by omega
  rcases this with rfl | rfl <;> omega

/-! ### r - y -/
structure SbI (R0 Y R : List Int) (k : Nat) (c : Int) : Prop where
  eq : pre R k - c * pw k = pre R0 k - pre Y k
  rest : ∀ j, k ≤ j → nth R j = nth R0 j
  c0 : 0 ≤ c
  c1 : c ≤ 1
theorem SbI.start (R Y : List Int) : SbI R Y R 0 0 := ⟨by simp [pre_zero], fun _ _ => rfl, by decide, by decide⟩
theorem SbI.next {R0 Y R : List Int} {k : Nat} {c v b : Int} (h : SbI R0 Y R k c) (hk : k < R.length) (b0 : 0 ≤ b) (b1 : b ≤ 1) (e : v = nth R0 k - nth Y k - c + 18446744073709551616 * b) : SbI R0 Y (R.set k v) (k + 1) b := by
  refine ⟨?_, fun j hj => ?_, b0, b1⟩
  · have e2 := h.eq
    rw [pre_succ', pre_set_ge R k _ k (Nat.le_refl _), nth_set_same R k _ hk, pre_succ' R0 k, pre_succ' Y k, pw_succ]
    have e3 : b * (18446744073709551616 * pw k) = 18446744073709551616 * b * pw k := by rw [Int.mul_comm 18446744073709551616 b, Int.mul_assoc]
    have e4 : v * pw k = nth R0 k * pw k - nth Y k * pw k - c * pw k + 18446744073709551616 * b * pw k := by rw [e, Int.add_mul, Int.sub_mul, Int.sub_mul]
    rw [e3, e4]
    omega
  · rw [nth_set_other R k j _ (by omega)]
    exact h.rest j (by omega)
theorem SbI.done {R0 Y R : List Int} {n : Nat} {c : Int} (h : SbI R0 Y R n c) (h0 : R0.length = n) (hY : Y.length ≤ n) (h1 : R.length = n) (hR : Words R) (hle : val Y ≤ val R0) : val R = val R0 - val Y := by
  have e := h.eq
  have b := pre_bound hR n
  rw [pre_more R n (by omega), pre_more R0 n (by omega), pre_more Y n hY] at e
  rw [pre_more R n (by omega)] at b
  have hc := h.c0; have hc1 := h.c1
  have : c = 0 ∨ c = 1 := by omega
  rcases this with rfl | rfl <;> omega

/-! ### r >= y -/
theorem ge_top {R y : List Int} {n : Nat} (hR : Words R) (hy : Words y) (lR : R.length = n + 1) (ly : y.length = n) (h : nth R n ≠ 0) : val y ≤ val R := by
  have e : val R = pre R n + nth R n * pw n := by rw [← pre_all R, lR, pre_succ']
  have b := (val_bound hy).2
  rw [ly] at b
  have w := nth_word hR n
  have b2 := (pre_bound hR n).1
  have : 1 * pw n ≤ nth R n * pw n := Int.mul_le_mul_of_nonneg_right (by have := w.1; omega) (by have := pw_pos n; omega)
  omega
theorem low_val {R : List Int} {n : Nat} (lR : R.length = n + 1) (h : nth R n = 0) : val R = pre R n := by
  rw [← pre_all R, lR, pre_succ', h]; omega
theorem top_lt' {a b : List Int} (ha : Words a) (hb : Words b) (n t : Nat) (ht : t < n) (he : ∀ j, t + 1 ≤ j → j < n → nth a j = nth b j) (h : nth a t < nth b t) : pre a n < pre b n := by
  have h1 := pre_same a b (t + 1) n (by omega) he
  rw [pre_succ', pre_succ'] at h1
  have b1 := pre_bound ha t
  have b2 := pre_bound hb t
  have h3 : (nth a t + 1) * pw t ≤ nth b t * pw t := Int.mul_le_mul_of_nonneg_right (by omega) (by omega)
  rw [Int.add_mul] at h3
  omega
theorem same_pre {a b : List Int} (n : Nat) (he : ∀ j, j < n → nth a j = nth b j) : pre a n = pre b n := by
  have h1 := pre_same a b 0 n (by omega) (fun j _ h => he j h)
  rw [pre_zero, pre_zero] at h1
  omega

/-! ### The division -/
theorem val_high (x : List Int) (i : Nat) : ∀ n, i ≤ n → ∃ H, pre x n = pre x i + pw i * H := by
  intro n hn
  induction n with
  | zero => exact ⟨0, by rw [show i = 0 by omega]; omega⟩
  | succ m ih =>
    by_cases hi : i = m + 1
    · exact ⟨0, by rw [hi]; omega⟩
    · obtain ⟨H, hH⟩ := ih (by omega)
      refine ⟨H + nth x m * pw (m - i), ?_⟩
      have : pw m = pw i * pw (m - i) := by rw [← pw_add, show i + (m - i) = m by omega]
      rw [pre_succ', hH, this, Int.mul_add, Int.mul_left_comm (pw i)]
      omega

/-- Word i of x, and what stands above it. -/
theorem val_div {x : List Int} (hx : Words x) (i : Nat) (hi : i < x.length) : ∃ H, val x / pw i = nth x i + 18446744073709551616 * H := by
  obtain ⟨H, h⟩ := val_high x (i + 1) x.length (by omega)
  rw [pre_all, pre_succ', pw_succ] at h
  have b := pre_bound hx i
  refine ⟨H, ?_⟩
  have e : val x = pre x i + (nth x i + 18446744073709551616 * H) * pw i := by
    have e1 : (nth x i + 18446744073709551616 * H) * pw i = nth x i * pw i + 18446744073709551616 * pw i * H := by rw [Int.add_mul, Int.mul_right_comm]
    rw [e1, h]; omega
  rw [e, Int.add_mul_ediv_right _ _ (by have := pw_pos i; omega), Int.ediv_eq_zero_of_lt b.1 b.2]
  omega

theorem two_pos (m : Nat) : (0 : Int) < 2 ^ m := Int.pow_pos (by decide)

theorem half_div (V : Int) (m : Nat) : V / 2 ^ m = 2 * (V / 2 ^ (m + 1)) + (V / 2 ^ m) % 2 := by
  have e : V / 2 ^ (m + 1) = V / 2 ^ m / 2 := by rw [Int.pow_succ, Int.ediv_ediv_of_nonneg (Int.le_of_lt (two_pos m))]
  rw [e]; omega

theorem bit_of (x H : Int) (m : Nat) (hm : m < 64) : ((x + 18446744073709551616 * H) / 2 ^ m) % 2 = (x / 2 ^ m) % 2 := by
  have e : (18446744073709551616 : Int) = 2 ^ m * (2 * 2 ^ (63 - m)) := by
    rw [← Int.mul_assoc, ← Int.pow_succ, ← Int.pow_add, show m + 1 + (63 - m) = 64 by omega]; decide
  rw [e, Int.mul_assoc, Int.add_mul_ediv_left _ _ (Int.ne_of_gt (two_pos m)), Int.mul_assoc]
  omega

structure QI (x y Q R : List Int) (i m : Nat) : Prop where
  eq : val x / (pw i * 2 ^ m) * (pw i * 2 ^ m) = val Q * val y + val R * (pw i * 2 ^ m)
  lt : val R < val y
  low : ∀ j, j < i → nth Q j = 0
  cur : ∃ a, 0 ≤ a ∧ nth Q i = a * 2 ^ m

theorem val_zeros (n : Nat) : val (List.replicate n 0) = 0 := by
  have h := pre_zeros (List.replicate n 0) 0 n (by omega) (fun j _ hj => by simp [nth, List.getD, hj])
  rw [pre_zero] at h
  rw [← pre_more (List.replicate n 0) n (by rw [List.length_replicate]; omega), h]
theorem nth_zeros (n j : Nat) : nth (List.replicate n 0) j = 0 := by
  unfold nth
  by_cases h : j < n <;> simp [List.getD, h]

theorem QI.start {x y : List Int} (hx : Words x) (k : Nat) (hy : 0 < val y) : QI x y (List.replicate x.length 0) (List.replicate k 0) x.length 0 := by
  have b := val_bound hx
  refine ⟨?_, by rw [val_zeros]; exact hy, fun j _ => nth_zeros _ _, 0, by omega, by rw [nth_zeros]; omega⟩
  rw [val_zeros, val_zeros, Int.pow_zero, Int.mul_one, Int.ediv_eq_zero_of_lt b.1 b.2]
  omega

theorem QI.word {x y Q R : List Int} {t : Nat} (h : QI x y Q R (t + 1) 0) : QI x y Q R t 64 := by
  have e : pw (t + 1) * 2 ^ 0 = pw t * 2 ^ 64 := by rw [pw_succ, Int.pow_zero, Int.mul_one, Int.mul_comm]; rfl
  refine ⟨by have := h.eq; rw [e] at this; exact this, h.lt, fun j hj => h.low j (by omega), 0, by omega, by rw [h.low t (by omega)]; omega⟩

theorem QI.mid {x y Q R : List Int} {i m : Nat} (h : QI x y Q R i (m + 1)) (hx : Words x) (hi : i < x.length) (hm : m < 64) {r : Int} (hr : r = 2 * val R + (nth x i / 2 ^ m) % 2) :
    val x / (pw i * 2 ^ m) * (pw i * 2 ^ m) = val Q * val y + r * (pw i * 2 ^ m) := by
  obtain ⟨H, hH⟩ := val_div hx i hi
  have p := pw_pos i
  have d1 : val x / (pw i * 2 ^ m) = val x / pw i / 2 ^ m := by rw [Int.ediv_ediv_of_nonneg (Int.le_of_lt p)]
  have d2 : val x / (pw i * 2 ^ (m + 1)) = val x / pw i / 2 ^ (m + 1) := by rw [Int.ediv_ediv_of_nonneg (Int.le_of_lt p)]
  have e := h.eq
  have hb := half_div (val x / pw i) m
  rw [hH, bit_of _ _ m hm, ← hH] at hb
  have e2 : pw i * 2 ^ (m + 1) = 2 * (pw i * 2 ^ m) := by rw [Int.pow_succ, ← Int.mul_assoc, Int.mul_comm]
  rw [d2, e2] at e
  rw [d1, hb, hr]
  generalize pw i * 2 ^ m = P at *
  generalize val x / pw i / 2 ^ (m + 1) = A at *
  generalize (nth x i / 2 ^ m) % 2 = B at *
  have e3 : (2 * A + B) * P = A * (2 * P) + B * P := by rw [Int.add_mul, Int.mul_assoc, Int.mul_left_comm]
  have e4 : (2 * val R + B) * P = val R * (2 * P) + B * P := by rw [Int.add_mul, Int.mul_assoc, Int.mul_left_comm]
  rw [e3, e4]
  omega

theorem QI.no {x y Q R R1 : List Int} {i m : Nat} (h : QI x y Q R i (m + 1)) (hx : Words x) (hi : i < x.length) (hm : m < 64) (hr : val R1 = 2 * val R + (nth x i / 2 ^ m) % 2) (hlt : val R1 < val y) : QI x y Q R1 i m := by
  obtain ⟨a, a0, ha⟩ := h.cur
  exact ⟨h.mid hx hi hm hr, hlt, h.low, 2 * a, by omega, by rw [ha, Int.pow_succ, ← Int.mul_assoc, Int.mul_comm _ 2, Int.mul_assoc]⟩

theorem QI.bits {x y Q R : List Int} {i m : Nat} (h : QI x y Q R i (m + 1)) (hQ : Words Q) (hm : m < 64) : bits .or .u64 (nth Q i) (2 ^ m) = nth Q i + 2 ^ m ∧ Word (nth Q i + 2 ^ m) := by
  obtain ⟨a, a0, ha⟩ := h.cur
  have w := nth_word hQ i
  obtain ⟨w0, w1⟩ := w
  rw [ha] at w0 w1 ⊢
  have p := two_pos m
  have e : (18446744073709551616 : Int) = 2 ^ (63 - m) * 2 ^ (m + 1) := by rw [← Int.pow_add, show 63 - m + (m + 1) = 64 by omega]; decide
  have p2 : (2 : Int) ^ (m + 1) = 2 * 2 ^ m := by rw [Int.pow_succ, Int.mul_comm]
  have q := two_pos (m + 1)
  have w2 := w1
  rw [e] at w2
  have w3 : a < 2 ^ (63 - m) := Int.lt_of_mul_lt_mul_right w2 (Int.le_of_lt q)
  have w4 : (a + 1) * 2 ^ (m + 1) ≤ 2 ^ (63 - m) * 2 ^ (m + 1) := Int.mul_le_mul_of_nonneg_right w3 (Int.le_of_lt q)
  rw [← e, Int.add_mul] at w4
  refine ⟨or_add (m + 1) a (2 ^ m) a0 (Int.le_of_lt p) (by omega) w1 (by omega), by omega, by omega⟩

theorem QI.yes {x y Q R R2 : List Int} {i m : Nat} (h : QI x y Q R i (m + 1)) (hx : Words x) (hi : i < x.length) (hm : m < 64) (hQ : Q.length = x.length) (hr : val R2 = 2 * val R + (nth x i / 2 ^ m) % 2 - val y) (hR2 : val R2 < val y) : QI x y (Q.set i (nth Q i + 2 ^ m)) R2 i m := by
  obtain ⟨a, a0, ha⟩ := h.cur
  have e := h.mid hx hi hm rfl
  have v : val (Q.set i (nth Q i + 2 ^ m)) = val Q + 2 ^ m * pw i := by
    have := pre_set_lt Q i (nth Q i + 2 ^ m) (by omega) Q.length (by omega)
    rw [pre_all, pre_more _ _ (by rw [List.length_set]; exact Nat.le_refl _)] at this
    rw [this, show nth Q i + 2 ^ m - nth Q i = 2 ^ m by omega]
  refine ⟨?_, hR2, fun j hj => by rw [nth_set_other Q i j _ (by omega)]; exact h.low j hj, 2 * a + 1, by omega, ?_⟩
  · rw [e, v, hr, Int.mul_comm (2 ^ m) (pw i)]
    generalize pw i * 2 ^ m = P at *
    rw [Int.add_mul (val Q), Int.sub_mul, Int.mul_comm P (val y)]
    omega
  · rw [nth_set_same Q i _ (by omega), ha, Int.add_mul, Int.one_mul, Int.pow_succ, ← Int.mul_assoc, Int.mul_comm _ 2, Int.mul_assoc]

theorem QI.done {x y Q R : List Int} (h : QI x y Q R 0 0) (hR : 0 ≤ val R) : val Q = val x / val y := by
  have e := h.eq
  have l := h.lt
  rw [show pw 0 = 1 from rfl, Int.pow_zero, Int.mul_one, Int.ediv_one, Int.mul_one, Int.mul_one] at e
  rw [e, Int.mul_comm, Int.add_comm, Int.add_mul_ediv_left _ _ (by omega), Int.ediv_eq_zero_of_lt hR l]
  omega

/-- 2r + bit fits into one word more than y has. -/
theorem QI.fits {x y Q R : List Int} {i m : Nat} (h : QI x y Q R i m) (hy : Words y) {bit : Int} (h1 : bit ≤ 1) : 2 * val R + bit < pw (y.length + 1) := by
  have b := (val_bound hy).2
  have l := h.lt
  have p := pw_pos y.length
  rw [pw_succ]
  omega

theorem bit_bits (x : Int) (m : Nat) (hx : Word x) : bits .and .u64 (x / 2 ^ m) 1 = (x / 2 ^ m) % 2 := by
  obtain ⟨h0, h1⟩ := hx
  have a0 : 0 ≤ x / 2 ^ m := Int.ediv_nonneg h0 (Int.le_of_lt (two_pos m))
  have a1 : x / 2 ^ m ≤ x := Int.ediv_le_self _ h0
  generalize x / 2 ^ m = v at *
  obtain ⟨v, rfl⟩ := Int.eq_ofNat_of_zero_le a0
  have h := bits_and_u64_nat v 1 (by omega) (by omega)
  rw [Nat.and_one_is_mod] at h
  simpa using h

end Go.Proofs.Qxb6620824a.Plain
