/-
  THE LAW FnShiftDownIsFloorDivision: its walk.
-/
import Derived.Test.Qxb6623386aMath
import Derived.RowKit3
import Derived.Deep.RegionWith
set_option linter.unusedVariables false
namespace Go.Proofs.Qxb6623386a
open Go.RowKit

set_option maxHeartbeats 1000000 in
theorem shiftDown (d0 d1 d2 r0 r1 r2 : Int) (k : Nat) (h0 : 0 < k) (h1 : k < 64) (e0 : d0 / 2 ^ k = r0) (e1 : bits BinOp.or IntKind.u64 (d1 / 2 ^ k) (IntKind.u64.wrap (d0 * 2 ^ (64 - k))) = r1) (e2 : bits BinOp.or IntKind.u64 (d2 / 2 ^ k) (IntKind.u64.wrap (d1 * 2 ^ (64 - k))) = r2) (w : World) :
    Calls Try.prog 8 #[.agg #[.int .u64 d0, .int .u64 d1, .int .u64 d2], .int .u64 k] w fun e w' => e = .returned (.agg #[.int .u64 r0, .int .u64 r1, .int .u64 r2]) ∧ ∃ c1 c2 : Array Value, w' = (w.alloc (.cells c1 30)).alloc (.cells c2 30) := by
  go_enter Try.func8, Try.ntmps8
  go_wp2
  simp [bodyPost, results, Try.results8, go_sem]
  exact ⟨_, _, rfl⟩

set_option maxHeartbeats 1000000 in
theorem zzShiftDown (d0 d1 d2 r0 r1 r2 : Int) (k : Nat) (h0 : 0 < k) (h1 : k < 64) (e0 : d0 / 2 ^ k = r0) (e1 : bits BinOp.or IntKind.u64 (d1 / 2 ^ k) (IntKind.u64.wrap (d0 * 2 ^ (64 - k))) = r1) (e2 : bits BinOp.or IntKind.u64 (d2 / 2 ^ k) (IntKind.u64.wrap (d1 * 2 ^ (64 - k))) = r2) (w : World) :
    Calls Try.prog 4 #[.agg #[.int .u64 d0, .int .u64 d1, .int .u64 d2], .int .u64 k] w fun e w' => e = .returned (.agg #[.int .u64 r0, .int .u64 r1, .int .u64 r2]) ∧ ∃ c1 c2 c3 c4 : Array Value, w' = (((w.alloc (.cells c1 23)).alloc (.cells c2 23)).alloc (.cells c3 30)).alloc (.cells c4 30) := by
  go_enter Try.func4, Try.ntmps4
  go_wp2_with (go_at_call 8; refine (shiftDown d0 d1 d2 r0 r1 r2 k h0 h1 e0 e1 e2 _).mono ?_; rintro e w' ⟨rfl, c1, c2, rfl⟩)
  simp [bodyPost, results, Try.results4, go_sem]
  exact ⟨_, _, _, _, rfl⟩

theorem mulX (x y h l : Int) (hx : Word x) (hy : Word y) (eh : mH x y = h) (el : mL x y = l) (w : World) : Calls Try.prog 5 #[.int .u64 x, .int .u64 y] w fun e w' => e = .returned (.tuple #[.int .u64 h, .int .u64 l]) ∧ w' = w := by
  have := mul64 x y hx.1 hx.2 hy.1 hy.2 w
  rw [eh, el] at this
  exact this

set_option maxHeartbeats 2000000 in
theorem law_walk (d0 d1 d2 r0 r1 r2 M l0 l1 l2 s0 s1 s2 : Int) (k : Nat) (h0 : 0 < k) (h1 : k < 64) (e0 : d0 / 2 ^ k = r0) (e1 : bits BinOp.or IntKind.u64 (d1 / 2 ^ k) (IntKind.u64.wrap (d0 * 2 ^ (64 - k))) = r1) (e2 : bits BinOp.or IntKind.u64 (d2 / 2 ^ k) (IntKind.u64.wrap (d1 * 2 ^ (64 - k))) = r2)
    (eM : IntKind.u64.wrap (2 ^ k) = M) (hM : Word M) (w0 : Word r0) (w1 : Word r1) (w2 : Word r2) (m0 : mH r0 M = 0) (n0 : mL r0 M = l0) (m1 : mH r1 M = s0) (n1 : mL r1 M = l1) (m2 : mH r2 M = s1) (n2 : mL r2 M = l2)
    (a1 : ∀ w, (callFunc 6 #[.int .u64 l1, .int .u64 s1, .int .u64 0]).run Try.prog w = .ok (.value (.tuple #[.int .u64 d1, .int .u64 0])) w)
    (a0 : ∀ w, (callFunc 6 #[.int .u64 l0, .int .u64 s0, .int .u64 0]).run Try.prog w = .ok (.value (.tuple #[.int .u64 d0, .int .u64 0])) w)
    (b2 : ∀ w, (callFunc 7 #[.int .u64 d2, .int .u64 l2, .int .u64 0]).run Try.prog w = .ok (.value (.tuple #[.int .u64 s2, .int .u64 0])) w)
    (b1 : ∀ w, (callFunc 7 #[.int .u64 d1, .int .u64 d1, .int .u64 0]).run Try.prog w = .ok (.value (.tuple #[.int .u64 0, .int .u64 0])) w)
    (b0 : ∀ w, (callFunc 7 #[.int .u64 d0, .int .u64 d0, .int .u64 0]).run Try.prog w = .ok (.value (.tuple #[.int .u64 0, .int .u64 0])) w) (hs : s2 < M) (w : World) :
    Calls Try.prog 3 #[.agg #[.int .u64 d0, .int .u64 d1, .int .u64 d2], .int .u64 k] w fun e w' => e = .returned (.bool true) ∧ Grown w w' := by
  have hk0 : ((k : Int) == 0) = false := by simp; omega
  go_enter Try.func3, Try.ntmps3
  go_wp2_with (first | (go_at_call 4; refine (zzShiftDown d0 d1 d2 r0 r1 r2 k h0 h1 e0 e1 e2 _).mono ?_; rintro e w' ⟨rfl, c1, c2, c3, c4, rfl⟩) | (go_at_call_of 5 (Value.int .u64 r2); refine (mulX r2 M s1 l2 w2 hM m2 n2 _).mono ?_; rintro e w' ⟨rfl, hw⟩; rw [hw]; clear hw) | (go_at_call_of 5 (Value.int .u64 r1); refine (mulX r1 M s0 l1 w1 hM m1 n1 _).mono ?_; rintro e w' ⟨rfl, hw⟩; rw [hw]; clear hw) | (go_at_call_of 5 (Value.int .u64 r0); refine (mulX r0 M 0 l0 w0 hM m0 n0 _).mono ?_; rintro e w' ⟨rfl, hw⟩; rw [hw]; clear hw))
  all_goals (go_ret; exact ⟨rfl, by repeat (first | exact Grown.refl _ | apply Grown.drew | apply Grown.alloc)⟩)

set_option maxHeartbeats 1000000 in
theorem law_out (d0 d1 d2 : Int) (k : Nat) (h : k = 0 ∨ 64 ≤ k) (w : World) :
    Calls Try.prog 3 #[.agg #[.int .u64 d0, .int .u64 d1, .int .u64 d2], .int .u64 k] w fun e w' => e = .returned (.bool true) ∧ Grown w w' := by
  rcases h with rfl | h
  · go_enter Try.func3, Try.ntmps3
    go_wp2
    go_ret
    exact ⟨rfl, by repeat (first | exact Grown.refl _ | apply Grown.drew | apply Grown.alloc)⟩
  · have hk0 : ((k : Int) == 0) = false := by simp; omega
    go_enter Try.func3, Try.ntmps3
    go_wp2
    go_ret
    exact ⟨rfl, by repeat (first | exact Grown.refl _ | apply Grown.drew | apply Grown.alloc)⟩

theorem law (d0 d1 d2 : Int) (k : Nat) (h0 : Word d0) (h1 : Word d1) (h2 : Word d2) (w : World) :
    Calls Try.prog 3 #[.agg #[.int .u64 d0, .int .u64 d1, .int .u64 d2], .int .u64 k] w fun e w' => e = .returned (.bool true) ∧ Grown w w' := by
  by_cases hk : k = 0 ∨ 64 ≤ k
  · exact law_out d0 d1 d2 k hk w
  · have hMR := pow_split k (by omega)
    have hM := pow_pos' k
    have hR := pow_pos' (64 - k)
    have p0 := parts _ _ d0 hM hR hMR h0
    have p1 := parts _ _ d1 hM hR hMR h1
    have p2 := parts _ _ d2 hM hR hMR h2
    have x1 := mixed k (by omega) d0 d1 _ _ _ _ p0 p1
    have x2 := mixed k (by omega) d1 d2 _ _ _ _ p1 p2
    have hMW := pow_word k (by omega)
    have q2 := mul_mixed _ _ d2 _ _ (d1 % 2 ^ k) hMR p2 h2
    have q1 := mul_mixed _ _ d1 _ _ (d0 % 2 ^ k) hMR p1 h1
    have q0 := mul_plain _ _ d0 _ _ hMR p0 h0
    exact law_walk d0 d1 d2 _ _ _ (2 ^ k) _ _ _ _ _ (d2 % 2 ^ k) k (by omega) (by omega) rfl x1 x2 (wrap_word _ hMW) hMW (div_word _ _ h0 hM) (mixed_word _ _ _ _ _ _ _ _ hM hR hMR p1 p0) (mixed_word _ _ _ _ _ _ _ _ hM hR hMR p2 p1) q0.1 q0.2 q1.1 q1.2 q2.1 q2.2 (add_back d1 _ h1 hM) (add_back d0 _ h0 hM) (sub_rem d2 _ h2 hM) (sub_same d1 h1) (sub_same d0 h0) p2.sM w

end Go.Proofs.Qxb6623386a
