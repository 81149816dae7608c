/-
  THE LAW FnRuleNameTellsRulesApart: its walk.
-/
import Derived.Test.Qxb6623340aRows
import Derived.WalkKit
import Derived.WalkSpells
import Derived.RowKit3
import Derived.Lib.Strings
set_option linter.unusedVariables false
namespace Go.Proofs.Qxb6623340a
open Go.RowKit

theorem toList_eq (s : ByteArray) : s.toList = s.data.toList := Lib.toList_data s
theorem toList_app (a b : ByteArray) : (a ++ b).toList = a.data.toList ++ b.data.toList := by
  rw [toList_eq]
  simp
theorem ret_bool {a b : Bool} (h : a = b) : Ending.returned (.bool a) = .returned (.bool b) := by rw [h]
theorem app_eq (a b : ByteArray) : ((⟨#[114, 117, 108, 101, 32]⟩ ++ a : ByteArray).toList == (⟨#[114, 117, 108, 101, 32]⟩ ++ b : ByteArray).toList) = (a.toList == b.toList) := by
  rw [toList_app, toList_app, toList_eq, toList_eq, Bool.eq_iff_iff]
  simp
theorem app_no (a : ByteArray) : ((⟨#[114, 117, 108, 101, 32]⟩ ++ a : ByteArray).toList == [110, 111, 32, 114, 117, 108, 101]) = false := by
  rw [toList_app]
  simp
theorem no_app (a : ByteArray) : ([110, 111, 32, 114, 117, 108, 101] == (⟨#[114, 117, 108, 101, 32]⟩ ++ a : ByteArray).toList) = false := by
  rw [toList_app]
  simp

set_option maxHeartbeats 400000 in
theorem bytes (a0 a2 : Bool) (a1 a3 : ByteArray) (h1 : a1.size ≤ 9223372036854775807) (h3 : a3.size ≤ 9223372036854775807) (w : World) :
    Calls Try.prog 4 #[.bool a0, .string a1, .bool a2, .string a3] w fun e w' => ∃ b, e = .returned (.bool b) ∧ w' = w := by
  go_enter Try.func4, Try.ntmps4
  go_wp2
  all_goals (go_ret; exact ⟨_, rfl, rfl⟩)

set_option maxHeartbeats 400000 in
theorem name_nil (w : World) : Calls Try.prog 5 #[.pointer none] w fun e w' => e = .returned (.string ⟨#[110, 111, 32, 114, 117, 108, 101]⟩) ∧ w' = w := by
  go_enter Try.func5, Try.ntmps5
  go_wp2
  go_ret
  exact ⟨rfl, rfl⟩

set_option maxHeartbeats 400000 in
theorem name_some (b : Nat) (s : ByteArray) (hs : s.size ≤ 1048576) (w : World) (hc : w.cell? ⟨b, 0, none⟩ = some (.string s)) : Calls Try.prog 5 #[.pointer (some ⟨b, 0, none⟩)] w fun e w' => e = .returned (.string (⟨#[114, 117, 108, 101, 32]⟩ ++ s)) ∧ w' = w := by
  go_enter Try.func5, Try.ntmps5
  go_wp2
  go_ret
  exact ⟨rfl, rfl⟩

set_option maxHeartbeats 400000 in
theorem walk_tt (a1 a3 : ByteArray) (h1 : a1.size ≤ 9223372036854775807) (h3 : a3.size ≤ 9223372036854775807) (w : World) :
    Calls Try.prog 3 #[.bool true, .string a1, .bool true, .string a3] w fun e w' => e = .returned (.bool true) ∧ Grown w w' := by
  go_enter Try.func3, Try.ntmps3
  go_wp2_with (go_at_call 4; refine (bytes _ _ _ _ h1 h3 _).mono ?_; rintro e w' ⟨b, rfl, hw⟩; rw [hw]; clear hw)
  · go_ret
    exact ⟨rfl, Grown.refl _⟩
  · go_ret
    exact ⟨rfl, Grown.refl _⟩
  · go_ret
    exact ⟨rfl, Grown.refl _⟩
  · refine (name_some w.heap.size a1 (by omega) _ ?_).mono ?_
    · simp [go_sem]
    rintro e w' ⟨rfl, hw⟩
    rw [hw]
    clear hw
    go_wp2_with fail
    refine (name_some (w.heap.size + 1) a3 (by omega) _ ?_).mono ?_
    · simp [go_sem]
    rintro e w' ⟨rfl, hw⟩
    rw [hw]
    clear hw
    go_wp2
    · have h : (a1.toList == a3.toList) = true := by assumption
      go_ret
      exact ⟨ret_bool (by rw [app_eq]; exact h), ((Grown.refl _).alloc _ _).alloc _ _⟩
    · have h : (a1.toList == a3.toList) = false := by assumption
      go_ret
      exact ⟨ret_bool (by rw [app_eq, h]; rfl), ((Grown.refl _).alloc _ _).alloc _ _⟩

set_option maxHeartbeats 400000 in
theorem walk_tf (a1 a3 : ByteArray) (h1 : a1.size ≤ 9223372036854775807) (h3 : a3.size ≤ 9223372036854775807) (w : World) :
    Calls Try.prog 3 #[.bool true, .string a1, .bool false, .string a3] w fun e w' => e = .returned (.bool true) ∧ Grown w w' := by
  go_enter Try.func3, Try.ntmps3
  go_wp2_with (go_at_call 4; refine (bytes _ _ _ _ h1 h3 _).mono ?_; rintro e w' ⟨b, rfl, hw⟩; rw [hw]; clear hw)
  · go_ret
    exact ⟨rfl, Grown.refl _⟩
  · go_ret
    exact ⟨rfl, Grown.refl _⟩
  · go_ret
    exact ⟨rfl, Grown.refl _⟩
  · refine (name_some w.heap.size a1 (by omega) _ ?_).mono ?_
    · simp [go_sem]
    rintro e w' ⟨rfl, hw⟩
    rw [hw]
    clear hw
    go_wp2_with fail
    refine (name_nil _).mono ?_
    rintro e w' ⟨rfl, hw⟩
    rw [hw]
    clear hw
    go_wp2
    go_ret
    exact ⟨ret_bool (by rw [app_no]; rfl), (Grown.refl _).alloc _ _⟩

set_option maxHeartbeats 400000 in
theorem walk_ft (a1 a3 : ByteArray) (h1 : a1.size ≤ 9223372036854775807) (h3 : a3.size ≤ 9223372036854775807) (w : World) :
    Calls Try.prog 3 #[.bool false, .string a1, .bool true, .string a3] w fun e w' => e = .returned (.bool true) ∧ Grown w w' := by
  go_enter Try.func3, Try.ntmps3
  go_wp2_with (go_at_call 4; refine (bytes _ _ _ _ h1 h3 _).mono ?_; rintro e w' ⟨b, rfl, hw⟩; rw [hw]; clear hw)
  · go_ret
    exact ⟨rfl, Grown.refl _⟩
  · go_ret
    exact ⟨rfl, Grown.refl _⟩
  · go_ret
    exact ⟨rfl, Grown.refl _⟩
  · refine (name_nil _).mono ?_
    rintro e w' ⟨rfl, hw⟩
    rw [hw]
    clear hw
    go_wp2_with fail
    refine (name_some w.heap.size a3 (by omega) _ ?_).mono ?_
    · simp [go_sem]
    rintro e w' ⟨rfl, hw⟩
    rw [hw]
    clear hw
    go_wp2
    go_ret
    exact ⟨ret_bool (by rw [no_app]; rfl), (Grown.refl _).alloc _ _⟩

set_option maxHeartbeats 400000 in
theorem walk_ff (a1 a3 : ByteArray) (h1 : a1.size ≤ 9223372036854775807) (h3 : a3.size ≤ 9223372036854775807) (w : World) :
    Calls Try.prog 3 #[.bool false, .string a1, .bool false, .string a3] w fun e w' => e = .returned (.bool true) ∧ Grown w w' := by
  go_enter Try.func3, Try.ntmps3
  go_wp2_with (go_at_call 4; refine (bytes _ _ _ _ h1 h3 _).mono ?_; rintro e w' ⟨b, rfl, hw⟩; rw [hw]; clear hw)
  · go_ret
    exact ⟨rfl, Grown.refl _⟩
  · go_ret
    exact ⟨rfl, Grown.refl _⟩
  · go_ret
    exact ⟨rfl, Grown.refl _⟩
  · refine (name_nil _).mono ?_
    rintro e w' ⟨rfl, hw⟩
    rw [hw]
    clear hw
    go_wp2_with fail
    refine (name_nil _).mono ?_
    rintro e w' ⟨rfl, hw⟩
    rw [hw]
    clear hw
    go_wp2
    go_ret
    exact ⟨by simp, Grown.refl _⟩

theorem law (a0 a2 : Bool) (a1 a3 : ByteArray) (h1 : a1.size ≤ 9223372036854775807) (h3 : a3.size ≤ 9223372036854775807) (w : World) :
    Calls Try.prog 3 #[.bool a0, .string a1, .bool a2, .string a3] w fun e w' => e = .returned (.bool true) ∧ Grown w w' := by
  cases a0 <;> cases a2
  · exact walk_ff a1 a3 h1 h3 w
  · exact walk_ft a1 a3 h1 h3 w
  · exact walk_tf a1 a3 h1 h3 w
  · exact walk_tt a1 a3 h1 h3 w

end Go.Proofs.Qxb6623340a
