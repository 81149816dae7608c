/-
  NUMBERS AS LISTS OF WORDS, the least first: no Go in sight.
-/
import Derived.Test.Qxb6620824aMath3
set_option linter.unusedVariables false
namespace Go.Proofs.Qxb6620824a.Plain

/-- The word at place k (0 beyond the list). -/
def nth (l : List Int) (k : Nat) : Int := l.getD k 0
/-- The base to the power k. -/
def pw : Nat → Int
  | 0 => 1
  | k + 1 => 18446744073709551616 * pw k
/-- The number that the words say. -/
def val : List Int → Int
  | [] => 0
  | x :: l => x + 18446744073709551616 * val l
/-- The number that the first k words say. -/
def pre (l : List Int) (k : Nat) : Int := val (l.take k)
def Words (l : List Int) : Prop := ∀ x ∈ l, Word x
/-- No zero word on top. -/
def Norm (l : List Int) : Prop := l = [] ∨ nth l (l.length - 1) ≠ 0

theorem pw_pos : ∀ k, 0 < pw k
  | 0 => by decide
  | k + 1 => by have := pw_pos k; unfold pw; omega
theorem pw_succ (k : Nat) : pw (k + 1) = 18446744073709551616 * pw k := rfl
theorem pw_add (j : Nat) : ∀ k, pw (j + k) = pw j * pw k
  | 0 => by simp [pw]
  | k + 1 => by
    show 18446744073709551616 * pw (j + k) = pw j * (18446744073709551616 * pw k)
    rw [pw_add j k, Int.mul_left_comm]
theorem pw_le {j k : Nat} (h : j ≤ k) : pw j ≤ pw k := by
  obtain ⟨d, rfl⟩ := Nat.exists_eq_add_of_le h
  rw [pw_add]
  have h1 := pw_pos j; have h2 := pw_pos d
  have : pw j * 1 ≤ pw j * pw d := Int.mul_le_mul_of_nonneg_left (by omega) (by omega)
  omega

theorem word_zero : Word 0 := ⟨by decide, by decide⟩
theorem nth_word {l : List Int} (h : Words l) (k : Nat) : Word (nth l k) := by
  unfold nth
  by_cases hk : k < l.length
  · rw [List.getD_eq_getElem?_getD, List.getElem?_eq_getElem hk]
    exact h _ (List.getElem_mem hk)
  · rw [List.getD_eq_getElem?_getD, List.getElem?_eq_none (by omega)]
    exact word_zero

theorem pre_zero (l : List Int) : pre l 0 = 0 := rfl
theorem pre_all (l : List Int) : pre l l.length = val l := by unfold pre; rw [List.take_length]
theorem pre_more (l : List Int) (k : Nat) (h : l.length ≤ k) : pre l k = val l := by unfold pre; rw [List.take_of_length_le h]
theorem nth_cons_succ (x : Int) (l : List Int) (k : Nat) : nth (x :: l) (k + 1) = nth l k := rfl
theorem pre_cons (x : Int) (l : List Int) (k : Nat) : pre (x :: l) (k + 1) = x + 18446744073709551616 * pre l k := rfl

theorem pre_succ : ∀ (l : List Int) (k : Nat), k < l.length → pre l (k + 1) = pre l k + nth l k * pw k
  | [], k, h => absurd h (by simp)
  | x :: l, 0, _ => by simp [pre, val, nth, pw]
  | x :: l, k + 1, h => by
    have ih := pre_succ l k (by simpa using h)
    rw [pre_cons x l (k + 1), ih, pre_cons x l k, nth_cons_succ]
    show _ = _ + nth l k * (18446744073709551616 * pw k)
    rw [Int.mul_left_comm, Int.mul_add]
    omega

/-- Beyond the list's end the words are 0: the same law holds for every k. -/
theorem pre_succ' (l : List Int) (k : Nat) : pre l (k + 1) = pre l k + nth l k * pw k := by
  by_cases h : k < l.length
  · exact pre_succ l k h
  · rw [pre_more l (k + 1) (by omega), pre_more l k (by omega)]
    have : nth l k = 0 := by unfold nth; rw [List.getD_eq_getElem?_getD, List.getElem?_eq_none (by omega)]; rfl
    rw [this]; omega

theorem nth_set_same (l : List Int) (p : Nat) (v : Int) (h : p < l.length) : nth (l.set p v) p = v := by
  unfold nth; simp [List.getD_eq_getElem?_getD, h]
theorem nth_set_other (l : List Int) (p k : Nat) (v : Int) (h : k ≠ p) : nth (l.set p v) k = nth l k := by
  unfold nth; simp [List.getD_eq_getElem?_getD, List.getElem?_set_ne (Ne.symm h)]
theorem pre_set_ge (l : List Int) (p : Nat) (v : Int) : ∀ k, k ≤ p → pre (l.set p v) k = pre l k
  | 0, _ => rfl
  | k + 1, h => by rw [pre_succ', pre_succ', pre_set_ge l p v k (by omega), nth_set_other l p k v (by omega)]
theorem pre_set_lt (l : List Int) (p : Nat) (v : Int) (hp : p < l.length) : ∀ k, p < k → pre (l.set p v) k = pre l k + (v - nth l p) * pw p
  | 0, h => by omega
  | k + 1, h => by
    rw [pre_succ', pre_succ']
    by_cases hk : p < k
    · rw [pre_set_lt l p v hp k hk, nth_set_other l p k v (by omega)]; omega
    · obtain rfl : p = k := by omega
      rw [pre_set_ge l p v p (by omega), nth_set_same l p v hp, Int.sub_mul]; omega

theorem Words.set {l : List Int} (h : Words l) (p : Nat) {v : Int} (hv : Word v) : Words (l.set p v) := by
  intro x hx
  rcases List.mem_or_eq_of_mem_set hx with hx | rfl
  · exact h x hx
  · exact hv
theorem Words.take {l : List Int} (h : Words l) (k : Nat) : Words (l.take k) := fun x hx => h x (List.mem_of_mem_take hx)
theorem Words.drop {l : List Int} (h : Words l) (k : Nat) : Words (l.drop k) := fun x hx => h x (List.mem_of_mem_drop hx)

theorem pre_bound {l : List Int} (h : Words l) : ∀ k, 0 ≤ pre l k ∧ pre l k < pw k
  | 0 => by simp [pre, val, pw]
  | k + 1 => by
    obtain ⟨a, b⟩ := pre_bound h k
    obtain ⟨c, d⟩ := nth_word h k
    have hp := pw_pos k
    have e1 : 0 ≤ nth l k * pw k := Int.mul_nonneg c (by omega)
    have e2 : (nth l k + 1) * pw k ≤ 18446744073709551616 * pw k := Int.mul_le_mul_of_nonneg_right (by omega) (by omega)
    rw [Int.add_mul, Int.one_mul] at e2
    rw [pre_succ', pw_succ]
    omega
theorem val_bound {l : List Int} (h : Words l) : 0 ≤ val l ∧ val l < pw l.length := by rw [← pre_all]; exact pre_bound h _

theorem norm_ge {l : List Int} (h : Words l) (hn : Norm l) (h0 : 0 < l.length) : pw (l.length - 1) ≤ val l := by
  rcases hn with rfl | hn
  · simp at h0
  · obtain ⟨k, hk⟩ : ∃ k, l.length = k + 1 := ⟨l.length - 1, by omega⟩
    rw [← pre_all, hk, Nat.add_sub_cancel, pre_succ']
    rw [hk, Nat.add_sub_cancel] at hn
    have hb := pre_bound h k
    have hw := nth_word h k
    have hp := pw_pos k
    have : 1 * pw k ≤ nth l k * pw k := Int.mul_le_mul_of_nonneg_right (by have := hw.1; omega) (by omega)
    omega

theorem val_inj : ∀ {l m : List Int}, Words l → Words m → l.length = m.length → val l = val m → l = m
  | [], [], _, _, _, _ => rfl
  | [], _ :: _, _, _, h, _ => by simp at h
  | _ :: _, [], _, _, h, _ => by simp at h
  | x :: l, y :: m, hl, hm, h, e => by
    have hx := hl x (by simp); have hy := hm y (by simp)
    simp only [val] at e
    obtain ⟨_, _⟩ := hx; obtain ⟨_, _⟩ := hy
    have e1 : x = y := by omega
    have e2 : val l = val m := by omega
    rw [e1, val_inj (fun z hz => hl z (by simp [hz])) (fun z hz => hm z (by simp [hz])) (by simpa using h) e2]

/-- A number has one list of words without a zero on top. -/
theorem norm_inj {l m : List Int} (hl : Words l) (hm : Words m) (nl : Norm l) (nm : Norm m) (e : val l = val m) : l = m := by
  refine val_inj hl hm ?_ e
  have bl := val_bound hl; have bm := val_bound hm
  refine Nat.le_antisymm (Nat.not_lt.1 fun h => ?_) (Nat.not_lt.1 fun h => ?_)
  · have g := norm_ge hl nl (by omega)
    have := pw_le (show m.length ≤ l.length - 1 by omega)
    omega
  · have g := norm_ge hm nm (by omega)
    have := pw_le (show l.length ≤ m.length - 1 by omega)
    omega

/-- Zero words on top say nothing. -/
theorem pre_zeros (l : List Int) (m : Nat) : ∀ n, m ≤ n → (∀ j, m ≤ j → j < n → nth l j = 0) → pre l n = pre l m
  | 0, h, _ => by obtain rfl : m = 0 := by omega
                  rfl
  | n + 1, h, hz => by
    by_cases hn : m = n + 1
    · rw [hn]
    · rw [pre_succ', hz n (by omega) (by omega), pre_zeros l m n (by omega) (fun j h1 h2 => hz j h1 (by omega))]; omega

theorem nth_take (l : List Int) (k j : Nat) (h : j < k) : nth (l.take k) j = nth l j := by
  unfold nth; simp [List.getD_eq_getElem?_getD, h]
theorem pre_take (l : List Int) (k : Nat) : val (l.take k) = pre l k := rfl
theorem norm_take (l : List Int) (k : Nat) (hk : k ≤ l.length) (h : k = 0 ∨ nth l (k - 1) ≠ 0) : Norm (l.take k) := by
  rcases h with rfl | h
  · exact .inl (by simp)
  · by_cases k0 : k = 0
    · subst k0; exact .inl (by simp)
    · refine .inr ?_
      rw [List.length_take, Nat.min_eq_left hk, nth_take l k _ (by omega)]
      exact h

end Go.Proofs.Qxb6620824a.Plain
