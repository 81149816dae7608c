/-
  THE LAW FnNumberJoinsAtAnyCut: the law's own walk.
-/
import Derived.Test.Qxb6623399aWalk
set_option linter.unusedVariables false
namespace Go.Proofs.Qxb6623399a
open Go.RowKit

/-- What a reading of s gives. -/
def Reads (s : ByteArray) (n : Int) (ok : Bool) : Prop := ∀ w, Calls Try.prog 5 #[.string s] w fun e w' => e = .returned (.tuple #[.int .i64 n, .bool ok]) ∧ w' = w

set_option maxHeartbeats 1000000 in
theorem law_empty (a b s : ByteArray) (ha : a.size ≤ 524288) (hb : b.size ≤ 524288) (hs : a ++ b = s) (hz : s.size = 0) (Cs : Reads s 0 true) (Ca : Reads a 0 true) (Cb : Reads b 0 true) (hb0 : b.size = 0) (w : World) :
    Calls Try.prog 3 #[.string a, .string b] w fun e w' => e = .returned (.bool true) ∧ Grown w w' := by
  have hsz : a.size + b.size ≤ 9223372036854775807 := by omega
  go_enter Try.func3, Try.ntmps3
  go_wp2_with (first | (go_at_call 4; refine (bytes _ _ (by omega) (by omega) _).mono ?_; rintro e w' ⟨bb, rfl, hw⟩; rw [hw]; clear hw) | (go_at_call_of 5 (Value.string s); refine (Cs _).mono ?_; rintro e w' ⟨rfl, hw⟩; rw [hw]; clear hw) | (go_at_call_of 5 (Value.string a); refine (Ca _).mono ?_; rintro e w' ⟨rfl, hw⟩; rw [hw]; clear hw) | (go_at_call_of 5 (Value.string b); refine (Cb _).mono ?_; rintro e w' ⟨rfl, hw⟩; rw [hw]; clear hw) | (go_at_call 6; refine (pow10 0 (by omega) _).mono ?_; rintro e w' ⟨rfl, hw⟩; rw [hw]; clear hw))
  all_goals (go_ret; exact ⟨rfl, Grown.refl _⟩)

set_option maxHeartbeats 1000000 in
theorem law_full (a b s t : ByteArray) (m : Nat) (n na nb p c nc : Int) (oka okb okc : Bool) (ha : a.size ≤ 524288) (hb : b.size ≤ 524288) (hs : a ++ b = s) (hz : s.size = m + 1) (hm : m ≤ 1048576)
    (Cs : Reads s n (oka && okb)) (Ca : Reads a na oka) (Cb : Reads b nb okb) (Ct : Reads t nc okc)
    (Cp : ∀ w, Calls Try.prog 6 #[.int .i64 (b.size : Int)] w fun e w' => e = .returned (.int .i64 p) ∧ w' = w)
    (f1 : oka = false → na = 0) (f2 : okb = false → nb = 0) (f3 : (oka && okb) = true → wrap64 (wrap64 (na * p) + nb) = n) (f4 : (oka && okb) = false → n = 0)
    (ht : s.extract m (m + 1) = t) (hc : (((s[m]'(by omega)).toNat : Nat) : Int) = c) (c0 : 0 ≤ c) (c1 : c < 256) (g : (48 ≤ c ∧ c ≤ 57 ∧ okc = true ∧ nc = c - 48) ∨ (c < 48 ∧ okc = false ∧ nc = 0) ∨ (57 < c ∧ okc = false ∧ nc = 0)) (w : World) :
    Calls Try.prog 3 #[.string a, .string b] w fun e w' => e = .returned (.bool true) ∧ Grown w w' := by
  have hsz : a.size + b.size ≤ 9223372036854775807 := by omega
  cases oka <;> cases okb <;> (
    first | (obtain rfl := f1 rfl) | skip
    first | (obtain rfl := f2 rfl) | skip
    first | (obtain rfl := f4 rfl) | (have f5 := f3 rfl) | skip
    simp only [Bool.and_self, Bool.and_false, Bool.and_true] at Cs
    clear f1 f2 f3 f4
    rcases g with ⟨g1, g2, rfl, rfl⟩ | ⟨g1, rfl, rfl⟩ | ⟨g1, rfl, rfl⟩ <;> (
      go_enter Try.func3, Try.ntmps3
      go_wp2_with (first | (go_at_call 4; refine (bytes _ _ (by omega) (by omega) _).mono ?_; rintro e w' ⟨bb, rfl, hw⟩; rw [hw]; clear hw) | (go_at_call_of 5 (Value.string s); refine (Cs _).mono ?_; rintro e w' ⟨rfl, hw⟩; rw [hw]; clear hw) | (go_at_call_of 5 (Value.string a); refine (Ca _).mono ?_; rintro e w' ⟨rfl, hw⟩; rw [hw]; clear hw) | (go_at_call_of 5 (Value.string b); refine (Cb _).mono ?_; rintro e w' ⟨rfl, hw⟩; rw [hw]; clear hw) | (go_at_call_of 5 (Value.string t); refine (Ct _).mono ?_; rintro e w' ⟨rfl, hw⟩; rw [hw]; clear hw) | (go_at_call 6; refine (Cp _).mono ?_; rintro e w' ⟨rfl, hw⟩; rw [hw]; clear hw))
      all_goals (go_ret; exact ⟨rfl, Grown.refl _⟩)))

set_option maxHeartbeats 1000000 in
theorem law_out_a (a b : ByteArray) (ha' : a.size ≤ 9223372036854775807) (hb' : b.size ≤ 9223372036854775807) (h : 524288 < a.size) (w : World) :
    Calls Try.prog 3 #[.string a, .string b] w fun e w' => e = .returned (.bool true) ∧ Grown w w' := by
  go_enter Try.func3, Try.ntmps3
  go_wp2_with (go_at_call 4; refine (bytes _ _ (by omega) (by omega) _).mono ?_; rintro e w' ⟨bb, rfl, hw⟩; rw [hw]; clear hw)
  all_goals (go_ret; exact ⟨rfl, Grown.refl _⟩)

set_option maxHeartbeats 1000000 in
theorem law_out_b (a b : ByteArray) (ha' : a.size ≤ 9223372036854775807) (hb' : b.size ≤ 9223372036854775807) (ha : a.size ≤ 524288) (h : 524288 < b.size) (w : World) :
    Calls Try.prog 3 #[.string a, .string b] w fun e w' => e = .returned (.bool true) ∧ Grown w w' := by
  go_enter Try.func3, Try.ntmps3
  go_wp2_with (go_at_call 4; refine (bytes _ _ (by omega) (by omega) _).mono ?_; rintro e w' ⟨bb, rfl, hw⟩; rw [hw]; clear hw)
  all_goals (go_ret; exact ⟨rfl, Grown.refl _⟩)

theorem reads (s : ByteArray) (h : s.size ≤ 9223372036854775807) (l : List UInt8) (hl : s.data.toList = l) : Reads s (nuN l) (okN l) := fun w => zzNumber s _ _ h (by rw [hl]) (by rw [hl]) w

theorem size_app (a b : ByteArray) : (a ++ b).size = a.size + b.size := by
  rw [Lib.size_eq, data_append, List.length_append, ← Lib.size_eq, ← Lib.size_eq]

theorem nil_of (a : ByteArray) (h : a.size = 0) : a.data.toList = [] := List.length_eq_zero_iff.1 (by rw [← Lib.size_eq]; exact h)

theorem digit_cases (c : UInt8) : (48 ≤ (c.toNat : Int) ∧ (c.toNat : Int) ≤ 57 ∧ okN [c] = true ∧ nuN [c] = (c.toNat : Int) - 48) ∨ ((c.toNat : Int) < 48 ∧ okN [c] = false ∧ nuN [c] = 0) ∨ (57 < (c.toNat : Int) ∧ okN [c] = false ∧ nuN [c] = 0) := by
  by_cases h : isD c = true
  · have h2 : 48 ≤ c.toNat ∧ c.toNat ≤ 57 := by simpa [isD] using h
    exact .inl ⟨by omega, by omega, by rw [one_ok]; exact h, one_nu c h⟩
  · have h' : isD c = false := by simpa using h
    have h3 : okN [c] = false := by rw [one_ok]; exact h'
    have h2 : ¬ (48 ≤ c.toNat ∧ c.toNat ≤ 57) := by simpa [isD] using h
    by_cases hlt : c.toNat < 48
    · exact .inr (.inl ⟨by omega, h3, nuN_bad h3⟩)
    · exact .inr (.inr ⟨by omega, h3, nuN_bad h3⟩)

theorem law (a b : ByteArray) (ha' : a.size ≤ 9223372036854775807) (hb' : b.size ≤ 9223372036854775807) (w : World) :
    Calls Try.prog 3 #[.string a, .string b] w fun e w' => e = .returned (.bool true) ∧ Grown w w' := by
  by_cases ha : a.size ≤ 524288
  · by_cases hb : b.size ≤ 524288
    · have hsz := size_app a b
      have Ca := reads a ha' _ rfl
      have Cb := reads b hb' _ rfl
      have Cs := reads (a ++ b) (by omega) _ (data_append a b)
      by_cases h0 : (a ++ b).size = 0
      · have ea := nil_of a (by omega)
        have eb := nil_of b (by omega)
        rw [ea] at Ca
        rw [eb] at Cb
        rw [ea, eb] at Cs
        exact law_empty a b _ ha hb rfl h0 Cs Ca Cb (by omega) w
      · obtain ⟨m, hm⟩ : ∃ m, (a ++ b).size = m + 1 := ⟨(a ++ b).size - 1, by omega⟩
        have Ct := reads ((a ++ b).extract m (m + 1)) (by rw [ByteArray.size_extract]; omega) _ (last_list (a ++ b) m hm)
        have lb : b.data.toList.length = b.size := by rw [← Lib.size_eq]
        rw [okN_append] at Cs
        have bd := ((a ++ b)[m]'(by omega)).toNat_lt
        refine law_full a b _ _ m _ _ _ (W (10 ^ b.size)) _ _ _ _ _ ha hb rfl hm (by omega) Cs Ca Cb Ct (pow10 b.size hb') nuN_bad nuN_bad ?_ ?_ rfl rfl (by omega) (by omega) (digit_cases _) w
        · intro h
          rw [Bool.and_eq_true] at h
          rw [w64, w64, nuN_join _ _ h.1 h.2, lb]
        · intro h
          exact nuN_bad (by rw [okN_append]; exact h)
    · exact law_out_b a b ha' hb' ha (by omega) w
  · exact law_out_a a b ha' hb' (by omega) w

end Go.Proofs.Qxb6623399a
