/-
  THE LAW FnNumberJoinsAtAnyCut: its walk.
-/
import Derived.Test.Qxb6623399aPlain
import Derived.Deep.RegionWith
import Derived.Deep.Draws
set_option linter.unusedVariables false
namespace Go.Proofs.Qxb6623399a
open Go.RowKit

theorem ret_eq {n m : Int} {a b : Bool} (h : n = m) (h' : a = b) : Ending.returned (.tuple #[.int .i64 n, .bool a]) = .returned (.tuple #[.int .i64 m, .bool b]) := by rw [h, h']
theorem ret_int {n m : Int} (h : n = m) : Ending.returned (.int .i64 n) = .returned (.int .i64 m) := by rw [h]

set_option maxHeartbeats 1000000 in
theorem bytes (a b : ByteArray) (h0 : a.size ≤ 9223372036854775807) (h1 : b.size ≤ 9223372036854775807) (w : World) :
    Calls Try.prog 4 #[.string a, .string b] w fun e w' => ∃ b, e = .returned (.bool b) ∧ w' = w := by
  go_enter Try.func4, Try.ntmps4
  go_wp2
  all_goals (go_ret; exact ⟨_, rfl, rfl⟩)

set_option maxHeartbeats 1000000 in
theorem pow10 (n : Nat) (hn : n ≤ 9223372036854775807) (w : World) :
    Calls Try.prog 6 #[.int .i64 n] w fun e w' => e = .returned (.int .i64 (W (10 ^ n))) ∧ w' = w := by
  go_enter Try.func6, Try.ntmps6
  go_wp2
  go_loopw [3, 4] (fun p i wr => ∃ k : Nat, k ≤ n ∧ i = .int .i64 k ∧ p = .int .i64 (W (10 ^ k)) ∧ wr = w) (fun _ i _ => n - (intOf i).toNat)
  case atStart => exact ⟨0, by omega, rfl, rfl, rfl⟩
  case round =>
    obtain ⟨k, hk, rfl, rfl, rfl⟩ := hrel
    have H : Hid (W (W (10 ^ k) * 10) = W (10 ^ (k + 1))) := ⟨by rw [W_ten, Int.pow_succ]⟩
    by_cases hlt : k < n
    · have hw : wrap64 (W (10 ^ k) * 10) = W (10 ^ (k + 1)) := by rw [w64]; exact H.out
      go_wp2
      go_roundw
      case rel => exact ⟨k + 1, by omega, by go_num, by rw [hw], trivial⟩
      case measure => simp [intOf]; omega
    · obtain rfl : k = n := by omega
      go_wp2
      go_ret
      exact ⟨rfl, rfl⟩

set_option maxHeartbeats 1000000 in
theorem number (s : ByteArray) (hs : s.size ≤ 9223372036854775807) (w : World) :
    Calls Try.prog 7 #[.string s] w fun e w' => e = .returned (.tuple #[.int .i64 (nuN s.data.toList), .bool (okN s.data.toList)]) ∧ w' = w := by
  obtain ⟨l, hl⟩ : ∃ l, l = s.data.toList := ⟨_, rfl⟩
  have HL : Hid (l.length = s.size) := ⟨by rw [hl, ← Lib.size_eq]⟩
  have HD : Hid (∀ k (h : k < s.size), (((s[k]'h).toNat : Nat) : Int) = dg l k) := ⟨fun k h => by rw [hl]; exact byte_dg s k h⟩
  rw [← hl]
  clear hl
  go_enter Try.func7, Try.ntmps7
  go_wp2
  go_loopw [4, 5] (fun p i wr => ∃ k : Nat, k ≤ s.size ∧ i = .int .i64 k ∧ p = .int .i64 (W (dv l k)) ∧ (∀ j, j < k → 48 ≤ dg l j ∧ dg l j ≤ 57) ∧ wr = w) (fun _ i _ => s.size - (intOf i).toNat)
  case atStart => exact ⟨0, by omega, rfl, rfl, fun j h => by omega, rfl⟩
  case round =>
    obtain ⟨k, hk, rfl, rfl, he, rfl⟩ := hrel
    have HE : Hid _ := ⟨he⟩
    clear he
    by_cases hlt : k < s.size
    · have hb := HD.out k hlt
      have bd := dg_bound l k
      have HS : Hid (dv l (k + 1) = dv l k * 10 + (dg l k - 48)) := ⟨rfl⟩
      have HB : Hid (dg l k < 48 ∨ 57 < dg l k → okN l = false) := ⟨fun h => by
        cases hk : okN l with
        | false => rfl
        | true => have := (okN_iff l).1 hk k (by rw [HL.out]; exact hlt); omega⟩
      obtain ⟨c, hc⟩ : ∃ c, c = dg l k := ⟨_, rfl⟩
      rw [← hc] at hb bd HS HB
      have HC : Hid _ := ⟨hc⟩
      clear hc
      by_cases h1 : c < 48
      · have HO := HB.out (.inl h1)
        have HV := nuN_bad HO
        have HO' : Hid _ := ⟨HO⟩
        have HV' : Hid _ := ⟨HV⟩
        clear HO HV
        go_wp2
        go_ret2
        exact ⟨ret_eq HV'.out.symm HO'.out.symm, rfl⟩
      · by_cases h2 : 57 < c
        · have HO := HB.out (.inr h2)
          have HV := nuN_bad HO
          have HO' : Hid _ := ⟨HO⟩
          have HV' : Hid _ := ⟨HV⟩
          clear HO HV
          go_wp2
          go_ret2
          exact ⟨ret_eq HV'.out.symm HO'.out.symm, rfl⟩
        · obtain ⟨d, hd⟩ : ∃ d, d = W (dv l k) := ⟨_, rfl⟩
          obtain ⟨d', hd'⟩ : ∃ d', d' = W (dv l (k + 1)) := ⟨_, rfl⟩
          have hw : wrap64 (wrap64 (d * 10) + (c - 48)) = d' := by rw [hd', hd, HS.out, w64, w64]; exact W_digit _ _
          rw [← hd]
          have Hd' : Hid _ := ⟨hd'⟩
          clear hd hd'
          go_wp2
          go_roundw
          case rel => exact ⟨k + 1, by omega, by go_num, by rw [← Hd'.out, hw], fun j h => by
            by_cases hj : j = k
            · rw [hj, ← HC.out]; omega
            · exact HE.out j (by omega), trivial⟩
          case measure => simp [intOf]; omega
    · obtain rfl : k = s.size := by omega
      have HO : Hid (okN l = true) := ⟨(okN_iff l).2 fun j hj => HE.out j (by rw [HL.out] at hj; exact hj)⟩
      have HV : Hid (nuN l = W (dv l s.size)) := ⟨by rw [nuN_ok HO.out, HL.out]⟩
      go_wp2
      go_ret2
      exact ⟨ret_eq HV.out.symm HO.out.symm, rfl⟩

set_option maxHeartbeats 1000000 in
theorem zzNumber (s : ByteArray) (n : Int) (ok : Bool) (hs : s.size ≤ 9223372036854775807) (hn : nuN s.data.toList = n) (ho : okN s.data.toList = ok) (w : World) :
    Calls Try.prog 5 #[.string s] w fun e w' => e = .returned (.tuple #[.int .i64 n, .bool ok]) ∧ w' = w := by
  have C := fun w => number s hs w
  rw [hn, ho] at C
  clear hn ho
  go_enter Try.func5, Try.ntmps5
  go_wp2_with (go_at_call 7; refine (C _).mono ?_; rintro e w' ⟨rfl, hw⟩; rw [hw]; clear hw)
  go_ret2
  exact ⟨rfl, rfl⟩

end Go.Proofs.Qxb6623399a
