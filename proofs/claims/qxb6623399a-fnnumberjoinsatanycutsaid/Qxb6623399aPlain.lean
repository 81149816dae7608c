/-
  THE PLAIN LAW: the number that a string of digits spells, in 64-bit wrapping arithmetic.
-/
import Derived.Test.Qxb6623399aRows
import Derived.WalkKit
import Derived.WalkSpells
import Derived.RowKit3
import Derived.Lib.Strings
set_option linter.unusedVariables false
namespace Go.Proofs.Qxb6623399a
open Go.RowKit

/-- A hypothesis that the walk's simplifier passes by. -/
structure Hid (p : Prop) : Prop where
  out : p

def W (x : Int) : Int := IntKind.i64.wrap x
theorem W_eq (x : Int) : W x = (x + 9223372036854775808) % 18446744073709551616 - 9223372036854775808 := IntKind.wrap_i64 x
theorem w64 (x : Int) : wrap64 x = W x := by unfold wrap64; exact (IntKind.wrap_i64 x).symm
theorem W_spec (x : Int) : ∃ t, W x = x + 18446744073709551616 * t := ⟨-((x + 9223372036854775808) / 18446744073709551616), by rw [W_eq]; omega⟩
theorem W_shift (x t : Int) : W (x + 18446744073709551616 * t) = W x := by rw [W_eq, W_eq]; omega
theorem W_small (x : Int) (h0 : -9223372036854775808 ≤ x) (h1 : x ≤ 9223372036854775807) : W x = x := by rw [W_eq]; omega
theorem W_of {x y t : Int} (h : x = y + 18446744073709551616 * t) : W x = W y := by rw [h, W_shift]

/-- One digit more. -/
theorem W_digit (x d : Int) : W (W (W x * 10) + d) = W (x * 10 + d) := by
  obtain ⟨t, h⟩ := W_spec x
  obtain ⟨u, h2⟩ := W_spec (W x * 10)
  rw [h2, h]
  exact W_of (t := 10 * t + u) (by omega)
theorem W_ten (x : Int) : W (W x * 10) = W (x * 10) := by
  obtain ⟨t, h⟩ := W_spec x
  rw [h]
  exact W_of (t := 10 * t) (by omega)
/-- The join. -/
theorem W_join (x p y : Int) : W (W (W x * W p) + W y) = W (x * p + y) := by
  obtain ⟨t, h⟩ := W_spec x
  obtain ⟨u, h2⟩ := W_spec p
  obtain ⟨v, h3⟩ := W_spec (W x * W p)
  obtain ⟨z, h4⟩ := W_spec y
  rw [h3, h4]
  refine W_of (t := t * p + x * u + 18446744073709551616 * (t * u) + v + z) ?_
  have e : W x * W p = x * p + 18446744073709551616 * (t * p + x * u + 18446744073709551616 * (t * u)) := by
    rw [h, h2, Int.add_mul, Int.mul_add, Int.mul_add, Int.mul_add, Int.mul_add]
    have a1 : x * (18446744073709551616 * u) = 18446744073709551616 * (x * u) := by rw [Int.mul_left_comm]
    have a2 : 18446744073709551616 * t * p = 18446744073709551616 * (t * p) := Int.mul_assoc _ _ _
    have a3 : 18446744073709551616 * t * (18446744073709551616 * u) = 18446744073709551616 * (18446744073709551616 * (t * u)) := by rw [Int.mul_assoc, Int.mul_left_comm t]
    rw [a1, a2, a3]
    omega
  rw [e]
  omega

def dg (l : List UInt8) (j : Nat) : Int := ((l.getD j 0).toNat : Int)
def dv (l : List UInt8) : Nat → Int
  | 0 => 0
  | k + 1 => dv l k * 10 + (dg l k - 48)
def isD (c : UInt8) : Bool := decide (48 ≤ c.toNat ∧ c.toNat ≤ 57)
def okN (l : List UInt8) : Bool := l.all isD
def nuN (l : List UInt8) : Int := if okN l = true then W (dv l l.length) else 0

theorem dg_bound (l : List UInt8) (j : Nat) : 0 ≤ dg l j ∧ dg l j < 256 := by
  have := (l.getD j 0).toNat_lt
  unfold dg
  omega
theorem okN_iff (l : List UInt8) : okN l = true ↔ ∀ j, j < l.length → 48 ≤ dg l j ∧ dg l j ≤ 57 := by
  unfold okN
  rw [List.all_eq_true]
  constructor
  · intro h j hj
    have := h l[j] (List.getElem_mem hj)
    have e : l.getD j 0 = l[j] := by simp [List.getD, List.getElem?_eq_getElem hj]
    unfold isD at this
    unfold dg
    rw [e]
    simp at this
    omega
  · intro h c hc
    obtain ⟨j, hj, rfl⟩ := List.getElem_of_mem hc
    have := h j hj
    have e : l.getD j 0 = l[j] := by simp [List.getD, List.getElem?_eq_getElem hj]
    unfold dg at this
    rw [e] at this
    unfold isD
    simp
    omega

theorem okN_append (a b : List UInt8) : okN (a ++ b) = (okN a && okN b) := by unfold okN; exact List.all_append
theorem dg_left (a b : List UInt8) (j : Nat) (h : j < a.length) : dg (a ++ b) j = dg a j := by
  unfold dg
  simp [List.getD, List.getElem?_append_left h]
theorem dg_right (a b : List UInt8) (k : Nat) : dg (a ++ b) (a.length + k) = dg b k := by
  unfold dg
  simp [List.getD, List.getElem?_append_right (Nat.le_add_right a.length k)]
theorem dv_left (a b : List UInt8) : ∀ k, k ≤ a.length → dv (a ++ b) k = dv a k
  | 0, _ => rfl
  | k + 1, h => by
    have := dv_left a b k (by omega)
    show dv (a ++ b) k * 10 + (dg (a ++ b) k - 48) = dv a k * 10 + (dg a k - 48)
    rw [this, dg_left a b k (by omega)]
theorem dv_right (a b : List UInt8) : ∀ k, dv (a ++ b) (a.length + k) = dv a a.length * 10 ^ k + dv b k
  | 0 => by
    have := dv_left a b a.length (Nat.le_refl _)
    simp [dv, this]
  | k + 1 => by
    have h := dv_right a b k
    show dv (a ++ b) (a.length + k) * 10 + (dg (a ++ b) (a.length + k) - 48) = dv a a.length * 10 ^ (k + 1) + (dv b k * 10 + (dg b k - 48))
    rw [h, dg_right, Int.pow_succ, Int.add_mul, Int.mul_assoc]
    omega

theorem nuN_bad {l : List UInt8} (h : okN l = false) : nuN l = 0 := by unfold nuN; rw [h]; rfl
theorem nuN_ok {l : List UInt8} (h : okN l = true) : nuN l = W (dv l l.length) := by unfold nuN; rw [if_pos h]

theorem nuN_join (a b : List UInt8) (ha : okN a = true) (hb : okN b = true) : nuN (a ++ b) = W (W (nuN a * W (10 ^ b.length)) + nuN b) := by
  rw [nuN_ok ha, nuN_ok hb, nuN_ok (by rw [okN_append, ha, hb]; rfl), W_join, List.length_append, dv_right]

/-- A string of one byte. -/
theorem one_ok (c : UInt8) : okN [c] = isD c := by unfold okN; simp
theorem one_nu (c : UInt8) (h : isD c = true) : nuN [c] = (c.toNat : Int) - 48 := by
  have h2 : 48 ≤ c.toNat ∧ c.toNat ≤ 57 := by simpa [isD] using h
  rw [nuN_ok (by rw [one_ok]; exact h)]
  show W (0 * 10 + (((c.toNat : Nat) : Int) - 48)) = _
  rw [W_small] <;> omega

theorem data_append (a b : ByteArray) : (a ++ b).data.toList = a.data.toList ++ b.data.toList := by simp
theorem byte_dg (s : ByteArray) (k : Nat) (h : k < s.size) : (((s[k]'h).toNat : Nat) : Int) = dg s.data.toList k := by
  unfold dg
  have h' : k < s.data.toList.length := by rw [← Lib.size_eq]; exact h
  have e : s.data.toList.getD k 0 = s.data.toList[k] := by simp [List.getD, List.getElem?_eq_getElem h']
  rw [e]
  rfl
theorem last_list (s : ByteArray) (n : Nat) (h : s.size = n + 1) : (s.extract n (n + 1)).data.toList = [s[n]'(by omega)] := by
  have h' : s.data.toList.length = n + 1 := by rw [← Lib.size_eq]; exact h
  rw [Lib.extract_data, show n + 1 - n = 1 by omega, List.drop_eq_getElem_cons (by omega), List.take_succ_cons, List.take_zero]
  rfl

end Go.Proofs.Qxb6623399a
