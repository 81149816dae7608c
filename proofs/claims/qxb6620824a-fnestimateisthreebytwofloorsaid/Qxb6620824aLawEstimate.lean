/-
  THE LAW FnEstimateIsThreeByTwoFloor: its walk.
-/
import Derived.Test.Qxb6620824aEstimate
import Derived.RowKit3
import Derived.Deep.RegionWith
set_option linter.unusedVariables false
namespace Go.Proofs.Qxb6620824a
open Go.RowKit Plain

/-- a2:a1:a0 ≤ b2:b1:b0. -/
def le3B (a2 a1 a0 b2 b1 b0 : Int) : Bool := decide ((a2 * 18446744073709551616 + a1) * 18446744073709551616 + a0 ≤ (b2 * 18446744073709551616 + b1) * 18446744073709551616 + b0)

theorem le3B_true {a2 a1 a0 b2 b1 b0 : Int} (h : (a2 * 18446744073709551616 + a1) * 18446744073709551616 + a0 ≤ (b2 * 18446744073709551616 + b1) * 18446744073709551616 + b0) : le3B a2 a1 a0 b2 b1 b0 = true := decide_eq_true h
theorem le3B_false {a2 a1 a0 b2 b1 b0 : Int} (h : (b2 * 18446744073709551616 + b1) * 18446744073709551616 + b0 < (a2 * 18446744073709551616 + a1) * 18446744073709551616 + a0) : le3B a2 a1 a0 b2 b1 b0 = false := decide_eq_false (by omega)

set_option maxHeartbeats 400000 in
theorem le3 (a2 a1 a0 b2 b1 b0 : Int) (h2 : Word a2) (h1 : Word a1) (h0 : Word a0) (k2 : Word b2) (k1 : Word b1) (k0 : Word b0) (w : World) :
    Calls Try.prog 17 #[.int .u64 a2, .int .u64 a1, .int .u64 a0, .int .u64 b2, .int .u64 b1, .int .u64 b0] w fun e w' => e = .returned (.bool (le3B a2 a1 a0 b2 b1 b0)) ∧ w' = w := by
  obtain ⟨_, _⟩ := h2; obtain ⟨_, _⟩ := h1; obtain ⟨_, _⟩ := h0; obtain ⟨_, _⟩ := k2; obtain ⟨_, _⟩ := k1; obtain ⟨_, _⟩ := k0
  by_cases e2 : a2 = b2
  · subst e2
    by_cases e1 : a1 = b1
    · subst e1
      go_enter Try.func17, Try.ntmps17
      go_wp2
      go_ret
      exact ⟨congrArg (fun x => Ending.returned (.bool x)) (by unfold le3B; exact decide_eq_decide.2 (by omega)), rfl⟩
    · have d1 : (a1 != b1) = true := by simpa using e1
      go_enter Try.func17, Try.ntmps17
      go_wp2
      go_ret
      exact ⟨congrArg (fun x => Ending.returned (.bool x)) (by unfold le3B; exact decide_eq_decide.2 (by omega)), rfl⟩
  · have d2 : (a2 != b2) = true := by simpa using e2
    go_enter Try.func17, Try.ntmps17
    go_wp2
    go_ret
    exact ⟨congrArg (fun x => Ending.returned (.bool x)) (by unfold le3B; exact decide_eq_decide.2 (by omega)), rfl⟩

/-- In the law's domain the estimate is the quotient. -/
theorem est_floor (u2 u1 u0 v1 v0 : Int) (h2 : Word u2) (h1 : Word u1) (h0 : Word u0) (hv1 : Word v1) (hv0 : Word v0) (hp : 0 < v1) (h : u2 < v1 ∨ u2 = v1 ∧ u1 < v0) :
    est u2 u1 u0 v1 v0 * v1 * 18446744073709551616 + est u2 u1 u0 v1 v0 * v0 ≤ (u2 * 18446744073709551616 + u1) * 18446744073709551616 + u0 ∧
    (u2 * 18446744073709551616 + u1) * 18446744073709551616 + u0 < est u2 u1 u0 v1 v0 * v1 * 18446744073709551616 + est u2 u1 u0 v1 v0 * v0 + (v1 * 18446744073709551616 + v0) := by
  obtain ⟨_, _⟩ := h2; obtain ⟨_, _⟩ := h1; obtain ⟨_, _⟩ := h0; obtain ⟨_, _⟩ := hv1; obtain ⟨_, _⟩ := hv0
  have hV : 0 < v1 * 18446744073709551616 + v0 := by omega
  have hlt : ((u2 * 18446744073709551616 + u1) * 18446744073709551616 + u0) / (v1 * 18446744073709551616 + v0) < 18446744073709551616 := quo_lt_base _ _ _ hV (by omega)
  have e : est u2 u1 u0 v1 v0 = ((u2 * 18446744073709551616 + u1) * 18446744073709551616 + u0) / (v1 * 18446744073709551616 + v0) := by unfold est; omega
  have f1 := mul_div_le ((u2 * 18446744073709551616 + u1) * 18446744073709551616 + u0) _ hV
  have f2 := lt_mul_div ((u2 * 18446744073709551616 + u1) * 18446744073709551616 + u0) _ hV
  rw [← e] at f1 f2
  rw [Int.mul_add, ← Int.mul_assoc] at f1
  rw [Int.add_mul (est u2 u1 u0 v1 v0) 1, Int.one_mul, Int.mul_add, ← Int.mul_assoc] at f2
  omega

/-- q V in three words, with the carry and without. -/
theorem prod_carry (qv0 qv1 h0 p0 h1 l1 p1 : Int) (g0 : h0 * 18446744073709551616 + p0 = qv0) (g1 : h1 * 18446744073709551616 + l1 = qv1) (k : (h0 + l1) % 18446744073709551616 = p1)
    (a : 0 ≤ h0) (a' : h0 < 18446744073709551616) (b : 0 ≤ l1) (b' : l1 < 18446744073709551616) (h : p1 < h0) : ((h1 + 1) * 18446744073709551616 + p1) * 18446744073709551616 + p0 = qv1 * 18446744073709551616 + qv0 := by
  have : h0 + l1 = p1 + 18446744073709551616 := by omega
  clear k
  omega
theorem prod_plain (qv0 qv1 h0 p0 h1 l1 p1 : Int) (g0 : h0 * 18446744073709551616 + p0 = qv0) (g1 : h1 * 18446744073709551616 + l1 = qv1) (k : (h0 + l1) % 18446744073709551616 = p1)
    (a : 0 ≤ h0) (a' : h0 < 18446744073709551616) (b : 0 ≤ l1) (b' : l1 < 18446744073709551616) (h : h0 ≤ p1) : (h1 * 18446744073709551616 + p1) * 18446744073709551616 + p0 = qv1 * 18446744073709551616 + qv0 := by
  have : h0 + l1 = p1 := by omega
  clear k
  omega

theorem add_over (p v s : Int) (k : (p + v) % 18446744073709551616 = s) (hp : 0 ≤ p) (hp' : p < 18446744073709551616) (hv : 0 ≤ v) (hv' : v < 18446744073709551616) (h : s < p) : p + v = s + 18446744073709551616 := by omega
theorem add_under (p v s : Int) (k : (p + v) % 18446744073709551616 = s) (hp : 0 ≤ p) (hp' : p < 18446744073709551616) (hv : 0 ≤ v) (hv' : v < 18446744073709551616) (h : p ≤ s) : p + v = s := by omega

/-- Everything that the ways' ends ask: P = p2:p1:p0, V = v1:v0, U below P + V. -/
structure Sum3 (u2 u1 u0 v1 v0 p2 p1 p0 s0 t1 s1 s2 : Int) : Prop where
  U : (u2 * 18446744073709551616 + u1) * 18446744073709551616 + u0 < (p2 * 18446744073709551616 + p1) * 18446744073709551616 + p0 + (v1 * 18446744073709551616 + v0)
  ks0 : (p0 + v0) % 18446744073709551616 = s0
  kt1 : (p1 + v1) % 18446744073709551616 = t1
  ks1 : (t1 + 1) % 18446744073709551616 = s1
  ks2 : (p2 + 1) % 18446744073709551616 = s2
  p0w : Word p0
  p1w : Word p1
  p2w : Word p2
  v0w : Word v0
  v1w : Word v1

theorem Sum3.t1w {u2 u1 u0 v1 v0 p2 p1 p0 s0 t1 s1 s2 : Int} (S : Sum3 u2 u1 u0 v1 v0 p2 p1 p0 s0 t1 s1 s2) : Word t1 := by rw [← S.kt1]; exact word_mod _
theorem Sum3.s0w {u2 u1 u0 v1 v0 p2 p1 p0 s0 t1 s1 s2 : Int} (S : Sum3 u2 u1 u0 v1 v0 p2 p1 p0 s0 t1 s1 s2) : Word s0 := by rw [← S.ks0]; exact word_mod _
theorem Sum3.s1w {u2 u1 u0 v1 v0 p2 p1 p0 s0 t1 s1 s2 : Int} (S : Sum3 u2 u1 u0 v1 v0 p2 p1 p0 s0 t1 s1 s2) : Word s1 := by rw [← S.ks1]; exact word_mod _
theorem Sum3.s2w {u2 u1 u0 v1 v0 p2 p1 p0 s0 t1 s1 s2 : Int} (S : Sum3 u2 u1 u0 v1 v0 p2 p1 p0 s0 t1 s1 s2) : Word s2 := by rw [← S.ks2]; exact word_mod _
theorem one_w : Word 1 := ⟨by decide, by decide⟩

theorem way1 {u2 u1 u0 v1 v0 p2 p1 p0 s0 t1 s1 s2 : Int} (S : Sum3 u2 u1 u0 v1 v0 p2 p1 p0 s0 t1 s1 s2) (a : s0 < p0) (b : t1 < p1) (c : p2 ≤ s2) : le3B s2 s1 s0 u2 u1 u0 = false := by
  have hs1 : s1 = t1 + 1 := by have h1 := S.ks1; have h2 := S.p1w.2; have h3 := S.t1w.1; omega
  have x := add_over p0 v0 s0 S.ks0 S.p0w.1 S.p0w.2 S.v0w.1 S.v0w.2 a
  have y := add_over p1 v1 t1 S.kt1 S.p1w.1 S.p1w.2 S.v1w.1 S.v1w.2 b
  have z := add_under p2 1 s2 S.ks2 S.p2w.1 S.p2w.2 one_w.1 one_w.2 c
  have U := S.U
  exact le3B_false (by omega)
theorem way2 {u2 u1 u0 v1 v0 p2 p1 p0 s0 t1 s1 s2 : Int} (S : Sum3 u2 u1 u0 v1 v0 p2 p1 p0 s0 t1 s1 s2) (a : s0 < p0) (b : p1 ≤ t1) (d : s1 < t1) (c : p2 ≤ s2) : le3B s2 s1 s0 u2 u1 u0 = false := by
  have x := add_over p0 v0 s0 S.ks0 S.p0w.1 S.p0w.2 S.v0w.1 S.v0w.2 a
  have y := add_under p1 v1 t1 S.kt1 S.p1w.1 S.p1w.2 S.v1w.1 S.v1w.2 b
  have t := add_over t1 1 s1 S.ks1 S.t1w.1 S.t1w.2 one_w.1 one_w.2 d
  have z := add_under p2 1 s2 S.ks2 S.p2w.1 S.p2w.2 one_w.1 one_w.2 c
  have U := S.U
  exact le3B_false (by omega)
theorem way3 {u2 u1 u0 v1 v0 p2 p1 p0 s0 t1 s1 s2 : Int} (S : Sum3 u2 u1 u0 v1 v0 p2 p1 p0 s0 t1 s1 s2) (a : s0 < p0) (b : p1 ≤ t1) (d : t1 ≤ s1) : le3B p2 s1 s0 u2 u1 u0 = false := by
  have x := add_over p0 v0 s0 S.ks0 S.p0w.1 S.p0w.2 S.v0w.1 S.v0w.2 a
  have y := add_under p1 v1 t1 S.kt1 S.p1w.1 S.p1w.2 S.v1w.1 S.v1w.2 b
  have t := add_under t1 1 s1 S.ks1 S.t1w.1 S.t1w.2 one_w.1 one_w.2 d
  have U := S.U
  exact le3B_false (by omega)
theorem way4 {u2 u1 u0 v1 v0 p2 p1 p0 s0 t1 s1 s2 : Int} (S : Sum3 u2 u1 u0 v1 v0 p2 p1 p0 s0 t1 s1 s2) (a : p0 ≤ s0) (b : t1 < p1) (c : p2 ≤ s2) : le3B s2 t1 s0 u2 u1 u0 = false := by
  have x := add_under p0 v0 s0 S.ks0 S.p0w.1 S.p0w.2 S.v0w.1 S.v0w.2 a
  have y := add_over p1 v1 t1 S.kt1 S.p1w.1 S.p1w.2 S.v1w.1 S.v1w.2 b
  have z := add_under p2 1 s2 S.ks2 S.p2w.1 S.p2w.2 one_w.1 one_w.2 c
  have U := S.U
  exact le3B_false (by omega)
theorem way5 {u2 u1 u0 v1 v0 p2 p1 p0 s0 t1 s1 s2 : Int} (S : Sum3 u2 u1 u0 v1 v0 p2 p1 p0 s0 t1 s1 s2) (a : p0 ≤ s0) (b : p1 ≤ t1) : le3B p2 t1 s0 u2 u1 u0 = false := by
  have x := add_under p0 v0 s0 S.ks0 S.p0w.1 S.p0w.2 S.v0w.1 S.v0w.2 a
  have y := add_under p1 v1 t1 S.kt1 S.p1w.1 S.p1w.2 S.v1w.1 S.v1w.2 b
  have U := S.U
  exact le3B_false (by omega)

set_option maxHeartbeats 1000000 in
theorem walk_lt_carry (u2 u1 u0 v1 v0 q h0 p0 h1 l1 p1 s0 t1 s1 s2 p2 : Int) (hu2 : Word u2) (hu1 : Word u1) (hu0 : Word u0) (hv1 : Word v1) (hv0 : Word v0) (hvv : v1 / 9223372036854775808 = 1) (hpv : 0 < v1) (hlt : u2 < v1) (hne : (u2 == v1) = false)
    (hq : est u2 u1 u0 v1 v0 = q) (e0 : mH q v0 = h0) (f0 : mL q v0 = p0) (e1 : mH q v1 = h1) (f1 : mL q v1 = l1) (ep1 : IntKind.u64.wrap (h0 + l1) = p1) (es0 : IntKind.u64.wrap (p0 + v0) = s0) (et1 : IntKind.u64.wrap (p1 + v1) = t1)
    (es1 : IntKind.u64.wrap (t1 + 1) = s1) (es2 : IntKind.u64.wrap (p2 + 1) = s2) (ep2 : h1 + 1 = p2) (hc : p1 < h0)
    (hqw : Word q) (wh0 : Word h0) (wh1 : Word h1) (b1 : h1 ≤ 18446744073709551614) (wl1 : Word l1) (S : Sum3 u2 u1 u0 v1 v0 p2 p1 p0 s0 t1 s1 s2)
    (hl : le3B p2 p1 p0 u2 u1 u0 = true)
    (w : World) :
    Calls Try.prog 4 #[.int .u64 u2, .int .u64 u1, .int .u64 u0, .int .u64 v1, .int .u64 v0] w fun e w' => e = .returned (.bool true) ∧ ∃ n, w' = w.drewN n := by
  have qw := hqw; have xp1 := S.p1w; have xp0 := S.p0w; have xp2 := S.p2w; have xu2 := hu2; have xu1 := hu1; have xu0 := hu0; have xv1 := hv1; have xv0 := hv0
  have xs0 := S.s0w; have xs1 := S.s1w; have xs2 := S.s2w; have xt1 := S.t1w
  obtain ⟨a2, a2'⟩ := hu2; obtain ⟨a1, a1'⟩ := hu1; obtain ⟨a0, a0'⟩ := hu0; obtain ⟨j1, j1'⟩ := hv1; obtain ⟨j0, j0'⟩ := hv0
  obtain ⟨m0, m0'⟩ := wh0; obtain ⟨n0, n0'⟩ := S.p0w; obtain ⟨m1, m1'⟩ := wh1; obtain ⟨n1, n1'⟩ := wl1; obtain ⟨x1, x1'⟩ := S.p1w; obtain ⟨y1, y1'⟩ := S.s0w; obtain ⟨z1, z1'⟩ := S.t1w; obtain ⟨q0, q1⟩ := hqw
  obtain ⟨i2, i2'⟩ := S.p2w; obtain ⟨i3, i3'⟩ := S.s1w; obtain ⟨i4, i4'⟩ := S.s2w
  have hle : u2 ≤ v1 := by omega
  go_enter Try.func4, Try.ntmps4
  go_wp2_with (first | (go_at_call 15; refine (zzEstimate u2 u1 u0 v1 v0 xu2 xu1 xu0 xv1 xv0 hpv hle _).mono ?_; rintro e w' ⟨rfl, n, hw⟩; rw [hw]; clear hw) | (go_at_call_of 16 (Value.int IntKind.u64 v0); refine (mulWide q v0 q0 q1 j0 j0' _).mono ?_; rintro e w' ⟨rfl, hw⟩; rw [hw]; clear hw) | (go_at_call 16; refine (mulWide q v1 q0 q1 j1 j1' _).mono ?_; rintro e w' ⟨rfl, hw⟩; rw [hw]; clear hw) | (go_at_call_of 17 (Value.int IntKind.u64 p0); refine (le3 p2 p1 p0 u2 u1 u0 xp2 xp1 xp0 xu2 xu1 xu0 _).mono ?_; rintro e w' ⟨rfl, hw⟩; rw [hw]; clear hw))
  all_goals first
    | (go_ret; exact ⟨rfl, _, rfl⟩)
    | (have a : s0 < p0 := by assumption
       have b : t1 < p1 := by assumption
       have c : p2 ≤ s2 := by assumption
       refine (le3 s2 s1 s0 u2 u1 u0 xs2 xs1 xs0 xu2 xu1 xu0 _).mono ?_; rintro e w' ⟨rfl, hw⟩; rw [hw]; clear hw
       rw [way1 S a b c]
       go_wp2
       go_ret
       exact ⟨rfl, _, rfl⟩)
    | (have a : s0 < p0 := by assumption
       have b : p1 ≤ t1 := by assumption
       have d : s1 < t1 := by assumption
       have c : p2 ≤ s2 := by assumption
       refine (le3 s2 s1 s0 u2 u1 u0 xs2 xs1 xs0 xu2 xu1 xu0 _).mono ?_; rintro e w' ⟨rfl, hw⟩; rw [hw]; clear hw
       rw [way2 S a b d c]
       go_wp2
       go_ret
       exact ⟨rfl, _, rfl⟩)
    | (have a : s0 < p0 := by assumption
       have b : p1 ≤ t1 := by assumption
       have d : t1 ≤ s1 := by assumption
       refine (le3 p2 s1 s0 u2 u1 u0 xp2 xs1 xs0 xu2 xu1 xu0 _).mono ?_; rintro e w' ⟨rfl, hw⟩; rw [hw]; clear hw
       rw [way3 S a b d]
       go_wp2
       go_ret
       exact ⟨rfl, _, rfl⟩)
    | (have a : p0 ≤ s0 := by assumption
       have b : t1 < p1 := by assumption
       have c : p2 ≤ s2 := by assumption
       refine (le3 s2 t1 s0 u2 u1 u0 xs2 xt1 xs0 xu2 xu1 xu0 _).mono ?_; rintro e w' ⟨rfl, hw⟩; rw [hw]; clear hw
       rw [way4 S a b c]
       go_wp2
       go_ret
       exact ⟨rfl, _, rfl⟩)
    | (have a : p0 ≤ s0 := by assumption
       have b : p1 ≤ t1 := by assumption
       refine (le3 p2 t1 s0 u2 u1 u0 xp2 xt1 xs0 xu2 xu1 xu0 _).mono ?_; rintro e w' ⟨rfl, hw⟩; rw [hw]; clear hw
       rw [way5 S a b]
       go_wp2
       go_ret
       exact ⟨rfl, _, rfl⟩)

set_option maxHeartbeats 1000000 in
theorem walk_lt_plain (u2 u1 u0 v1 v0 q h0 p0 h1 l1 p1 s0 t1 s1 s2 : Int) (hu2 : Word u2) (hu1 : Word u1) (hu0 : Word u0) (hv1 : Word v1) (hv0 : Word v0) (hvv : v1 / 9223372036854775808 = 1) (hpv : 0 < v1) (hlt : u2 < v1) (hne : (u2 == v1) = false)
    (hq : est u2 u1 u0 v1 v0 = q) (e0 : mH q v0 = h0) (f0 : mL q v0 = p0) (e1 : mH q v1 = h1) (f1 : mL q v1 = l1) (ep1 : IntKind.u64.wrap (h0 + l1) = p1) (es0 : IntKind.u64.wrap (p0 + v0) = s0) (et1 : IntKind.u64.wrap (p1 + v1) = t1)
    (es1 : IntKind.u64.wrap (t1 + 1) = s1) (es2 : IntKind.u64.wrap (h1 + 1) = s2) (hc : h0 ≤ p1)
    (hqw : Word q) (wh0 : Word h0) (wh1 : Word h1) (b1 : h1 ≤ 18446744073709551614) (wl1 : Word l1) (S : Sum3 u2 u1 u0 v1 v0 h1 p1 p0 s0 t1 s1 s2)
    (hl : le3B h1 p1 p0 u2 u1 u0 = true)
    (w : World) :
    Calls Try.prog 4 #[.int .u64 u2, .int .u64 u1, .int .u64 u0, .int .u64 v1, .int .u64 v0] w fun e w' => e = .returned (.bool true) ∧ ∃ n, w' = w.drewN n := by
  have qw := hqw; have xp1 := S.p1w; have xp0 := S.p0w; have xp2 := S.p2w; have xu2 := hu2; have xu1 := hu1; have xu0 := hu0; have xv1 := hv1; have xv0 := hv0
  have xs0 := S.s0w; have xs1 := S.s1w; have xs2 := S.s2w; have xt1 := S.t1w
  obtain ⟨a2, a2'⟩ := hu2; obtain ⟨a1, a1'⟩ := hu1; obtain ⟨a0, a0'⟩ := hu0; obtain ⟨j1, j1'⟩ := hv1; obtain ⟨j0, j0'⟩ := hv0
  obtain ⟨m0, m0'⟩ := wh0; obtain ⟨n0, n0'⟩ := S.p0w; obtain ⟨m1, m1'⟩ := wh1; obtain ⟨n1, n1'⟩ := wl1; obtain ⟨x1, x1'⟩ := S.p1w; obtain ⟨y1, y1'⟩ := S.s0w; obtain ⟨z1, z1'⟩ := S.t1w; obtain ⟨q0, q1⟩ := hqw
  obtain ⟨i2, i2'⟩ := S.p2w; obtain ⟨i3, i3'⟩ := S.s1w; obtain ⟨i4, i4'⟩ := S.s2w
  have hle : u2 ≤ v1 := by omega
  go_enter Try.func4, Try.ntmps4
  go_wp2_with (first | (go_at_call 15; refine (zzEstimate u2 u1 u0 v1 v0 xu2 xu1 xu0 xv1 xv0 hpv hle _).mono ?_; rintro e w' ⟨rfl, n, hw⟩; rw [hw]; clear hw) | (go_at_call_of 16 (Value.int IntKind.u64 v0); refine (mulWide q v0 q0 q1 j0 j0' _).mono ?_; rintro e w' ⟨rfl, hw⟩; rw [hw]; clear hw) | (go_at_call 16; refine (mulWide q v1 q0 q1 j1 j1' _).mono ?_; rintro e w' ⟨rfl, hw⟩; rw [hw]; clear hw) | (go_at_call_of 17 (Value.int IntKind.u64 p0); refine (le3 h1 p1 p0 u2 u1 u0 xp2 xp1 xp0 xu2 xu1 xu0 _).mono ?_; rintro e w' ⟨rfl, hw⟩; rw [hw]; clear hw))
  all_goals first
    | (go_ret; exact ⟨rfl, _, rfl⟩)
    | (have a : s0 < p0 := by assumption
       have b : t1 < p1 := by assumption
       have c : h1 ≤ s2 := by assumption
       refine (le3 s2 s1 s0 u2 u1 u0 xs2 xs1 xs0 xu2 xu1 xu0 _).mono ?_; rintro e w' ⟨rfl, hw⟩; rw [hw]; clear hw
       rw [way1 S a b c]
       go_wp2
       go_ret
       exact ⟨rfl, _, rfl⟩)
    | (have a : s0 < p0 := by assumption
       have b : p1 ≤ t1 := by assumption
       have d : s1 < t1 := by assumption
       have c : h1 ≤ s2 := by assumption
       refine (le3 s2 s1 s0 u2 u1 u0 xs2 xs1 xs0 xu2 xu1 xu0 _).mono ?_; rintro e w' ⟨rfl, hw⟩; rw [hw]; clear hw
       rw [way2 S a b d c]
       go_wp2
       go_ret
       exact ⟨rfl, _, rfl⟩)
    | (have a : s0 < p0 := by assumption
       have b : p1 ≤ t1 := by assumption
       have d : t1 ≤ s1 := by assumption
       refine (le3 h1 s1 s0 u2 u1 u0 xp2 xs1 xs0 xu2 xu1 xu0 _).mono ?_; rintro e w' ⟨rfl, hw⟩; rw [hw]; clear hw
       rw [way3 S a b d]
       go_wp2
       go_ret
       exact ⟨rfl, _, rfl⟩)
    | (have a : p0 ≤ s0 := by assumption
       have b : t1 < p1 := by assumption
       have c : h1 ≤ s2 := by assumption
       refine (le3 s2 t1 s0 u2 u1 u0 xs2 xt1 xs0 xu2 xu1 xu0 _).mono ?_; rintro e w' ⟨rfl, hw⟩; rw [hw]; clear hw
       rw [way4 S a b c]
       go_wp2
       go_ret
       exact ⟨rfl, _, rfl⟩)
    | (have a : p0 ≤ s0 := by assumption
       have b : p1 ≤ t1 := by assumption
       refine (le3 h1 t1 s0 u2 u1 u0 xp2 xt1 xs0 xu2 xu1 xu0 _).mono ?_; rintro e w' ⟨rfl, hw⟩; rw [hw]; clear hw
       rw [way5 S a b]
       go_wp2
       go_ret
       exact ⟨rfl, _, rfl⟩)

set_option maxHeartbeats 1000000 in
theorem walk_eq_carry (u1 u0 v1 v0 q h0 p0 h1 l1 p1 s0 t1 s1 s2 p2 : Int) (hu2 : Word v1) (hu1 : Word u1) (hu0 : Word u0) (hv1 : Word v1) (hv0 : Word v0) (hvv : v1 / 9223372036854775808 = 1) (hpv : 0 < v1) (hlt : u1 < v0)
    (hq : est v1 u1 u0 v1 v0 = q) (e0 : mH q v0 = h0) (f0 : mL q v0 = p0) (e1 : mH q v1 = h1) (f1 : mL q v1 = l1) (ep1 : IntKind.u64.wrap (h0 + l1) = p1) (es0 : IntKind.u64.wrap (p0 + v0) = s0) (et1 : IntKind.u64.wrap (p1 + v1) = t1)
    (es1 : IntKind.u64.wrap (t1 + 1) = s1) (es2 : IntKind.u64.wrap (p2 + 1) = s2) (ep2 : h1 + 1 = p2) (hc : p1 < h0)
    (hqw : Word q) (wh0 : Word h0) (wh1 : Word h1) (b1 : h1 ≤ 18446744073709551614) (wl1 : Word l1) (S : Sum3 v1 u1 u0 v1 v0 p2 p1 p0 s0 t1 s1 s2)
    (hl : le3B p2 p1 p0 v1 u1 u0 = true)
    (w : World) :
    Calls Try.prog 4 #[.int .u64 v1, .int .u64 u1, .int .u64 u0, .int .u64 v1, .int .u64 v0] w fun e w' => e = .returned (.bool true) ∧ ∃ n, w' = w.drewN n := by
  have qw := hqw; have xp1 := S.p1w; have xp0 := S.p0w; have xp2 := S.p2w; have xu2 := hu2; have xu1 := hu1; have xu0 := hu0; have xv1 := hv1; have xv0 := hv0
  have xs0 := S.s0w; have xs1 := S.s1w; have xs2 := S.s2w; have xt1 := S.t1w
  obtain ⟨a2, a2'⟩ := hu2; obtain ⟨a1, a1'⟩ := hu1; obtain ⟨a0, a0'⟩ := hu0; obtain ⟨j1, j1'⟩ := hv1; obtain ⟨j0, j0'⟩ := hv0
  obtain ⟨m0, m0'⟩ := wh0; obtain ⟨n0, n0'⟩ := S.p0w; obtain ⟨m1, m1'⟩ := wh1; obtain ⟨n1, n1'⟩ := wl1; obtain ⟨x1, x1'⟩ := S.p1w; obtain ⟨y1, y1'⟩ := S.s0w; obtain ⟨z1, z1'⟩ := S.t1w; obtain ⟨q0, q1⟩ := hqw
  obtain ⟨i2, i2'⟩ := S.p2w; obtain ⟨i3, i3'⟩ := S.s1w; obtain ⟨i4, i4'⟩ := S.s2w
  have hle : v1 ≤ v1 := by omega
  go_enter Try.func4, Try.ntmps4
  go_wp2_with (first | (go_at_call 15; refine (zzEstimate v1 u1 u0 v1 v0 xu2 xu1 xu0 xv1 xv0 hpv hle _).mono ?_; rintro e w' ⟨rfl, n, hw⟩; rw [hw]; clear hw) | (go_at_call_of 16 (Value.int IntKind.u64 v0); refine (mulWide q v0 q0 q1 j0 j0' _).mono ?_; rintro e w' ⟨rfl, hw⟩; rw [hw]; clear hw) | (go_at_call 16; refine (mulWide q v1 q0 q1 j1 j1' _).mono ?_; rintro e w' ⟨rfl, hw⟩; rw [hw]; clear hw) | (go_at_call_of 17 (Value.int IntKind.u64 p0); refine (le3 p2 p1 p0 v1 u1 u0 xp2 xp1 xp0 xu2 xu1 xu0 _).mono ?_; rintro e w' ⟨rfl, hw⟩; rw [hw]; clear hw))
  all_goals first
    | (go_ret; exact ⟨rfl, _, rfl⟩)
    | (have a : s0 < p0 := by assumption
       have b : t1 < p1 := by assumption
       have c : p2 ≤ s2 := by assumption
       refine (le3 s2 s1 s0 v1 u1 u0 xs2 xs1 xs0 xu2 xu1 xu0 _).mono ?_; rintro e w' ⟨rfl, hw⟩; rw [hw]; clear hw
       rw [way1 S a b c]
       go_wp2
       go_ret
       exact ⟨rfl, _, rfl⟩)
    | (have a : s0 < p0 := by assumption
       have b : p1 ≤ t1 := by assumption
       have d : s1 < t1 := by assumption
       have c : p2 ≤ s2 := by assumption
       refine (le3 s2 s1 s0 v1 u1 u0 xs2 xs1 xs0 xu2 xu1 xu0 _).mono ?_; rintro e w' ⟨rfl, hw⟩; rw [hw]; clear hw
       rw [way2 S a b d c]
       go_wp2
       go_ret
       exact ⟨rfl, _, rfl⟩)
    | (have a : s0 < p0 := by assumption
       have b : p1 ≤ t1 := by assumption
       have d : t1 ≤ s1 := by assumption
       refine (le3 p2 s1 s0 v1 u1 u0 xp2 xs1 xs0 xu2 xu1 xu0 _).mono ?_; rintro e w' ⟨rfl, hw⟩; rw [hw]; clear hw
       rw [way3 S a b d]
       go_wp2
       go_ret
       exact ⟨rfl, _, rfl⟩)
    | (have a : p0 ≤ s0 := by assumption
       have b : t1 < p1 := by assumption
       have c : p2 ≤ s2 := by assumption
       refine (le3 s2 t1 s0 v1 u1 u0 xs2 xt1 xs0 xu2 xu1 xu0 _).mono ?_; rintro e w' ⟨rfl, hw⟩; rw [hw]; clear hw
       rw [way4 S a b c]
       go_wp2
       go_ret
       exact ⟨rfl, _, rfl⟩)
    | (have a : p0 ≤ s0 := by assumption
       have b : p1 ≤ t1 := by assumption
       refine (le3 p2 t1 s0 v1 u1 u0 xp2 xt1 xs0 xu2 xu1 xu0 _).mono ?_; rintro e w' ⟨rfl, hw⟩; rw [hw]; clear hw
       rw [way5 S a b]
       go_wp2
       go_ret
       exact ⟨rfl, _, rfl⟩)

set_option maxHeartbeats 1000000 in
theorem walk_eq_plain (u1 u0 v1 v0 q h0 p0 h1 l1 p1 s0 t1 s1 s2 : Int) (hu2 : Word v1) (hu1 : Word u1) (hu0 : Word u0) (hv1 : Word v1) (hv0 : Word v0) (hvv : v1 / 9223372036854775808 = 1) (hpv : 0 < v1) (hlt : u1 < v0)
    (hq : est v1 u1 u0 v1 v0 = q) (e0 : mH q v0 = h0) (f0 : mL q v0 = p0) (e1 : mH q v1 = h1) (f1 : mL q v1 = l1) (ep1 : IntKind.u64.wrap (h0 + l1) = p1) (es0 : IntKind.u64.wrap (p0 + v0) = s0) (et1 : IntKind.u64.wrap (p1 + v1) = t1)
    (es1 : IntKind.u64.wrap (t1 + 1) = s1) (es2 : IntKind.u64.wrap (h1 + 1) = s2) (hc : h0 ≤ p1)
    (hqw : Word q) (wh0 : Word h0) (wh1 : Word h1) (b1 : h1 ≤ 18446744073709551614) (wl1 : Word l1) (S : Sum3 v1 u1 u0 v1 v0 h1 p1 p0 s0 t1 s1 s2)
    (hl : le3B h1 p1 p0 v1 u1 u0 = true)
    (w : World) :
    Calls Try.prog 4 #[.int .u64 v1, .int .u64 u1, .int .u64 u0, .int .u64 v1, .int .u64 v0] w fun e w' => e = .returned (.bool true) ∧ ∃ n, w' = w.drewN n := by
  have qw := hqw; have xp1 := S.p1w; have xp0 := S.p0w; have xp2 := S.p2w; have xu2 := hu2; have xu1 := hu1; have xu0 := hu0; have xv1 := hv1; have xv0 := hv0
  have xs0 := S.s0w; have xs1 := S.s1w; have xs2 := S.s2w; have xt1 := S.t1w
  obtain ⟨a2, a2'⟩ := hu2; obtain ⟨a1, a1'⟩ := hu1; obtain ⟨a0, a0'⟩ := hu0; obtain ⟨j1, j1'⟩ := hv1; obtain ⟨j0, j0'⟩ := hv0
  obtain ⟨m0, m0'⟩ := wh0; obtain ⟨n0, n0'⟩ := S.p0w; obtain ⟨m1, m1'⟩ := wh1; obtain ⟨n1, n1'⟩ := wl1; obtain ⟨x1, x1'⟩ := S.p1w; obtain ⟨y1, y1'⟩ := S.s0w; obtain ⟨z1, z1'⟩ := S.t1w; obtain ⟨q0, q1⟩ := hqw
  obtain ⟨i2, i2'⟩ := S.p2w; obtain ⟨i3, i3'⟩ := S.s1w; obtain ⟨i4, i4'⟩ := S.s2w
  have hle : v1 ≤ v1 := by omega
  go_enter Try.func4, Try.ntmps4
  go_wp2_with (first | (go_at_call 15; refine (zzEstimate v1 u1 u0 v1 v0 xu2 xu1 xu0 xv1 xv0 hpv hle _).mono ?_; rintro e w' ⟨rfl, n, hw⟩; rw [hw]; clear hw) | (go_at_call_of 16 (Value.int IntKind.u64 v0); refine (mulWide q v0 q0 q1 j0 j0' _).mono ?_; rintro e w' ⟨rfl, hw⟩; rw [hw]; clear hw) | (go_at_call 16; refine (mulWide q v1 q0 q1 j1 j1' _).mono ?_; rintro e w' ⟨rfl, hw⟩; rw [hw]; clear hw) | (go_at_call_of 17 (Value.int IntKind.u64 p0); refine (le3 h1 p1 p0 v1 u1 u0 xp2 xp1 xp0 xu2 xu1 xu0 _).mono ?_; rintro e w' ⟨rfl, hw⟩; rw [hw]; clear hw))
  all_goals first
    | (go_ret; exact ⟨rfl, _, rfl⟩)
    | (have a : s0 < p0 := by assumption
       have b : t1 < p1 := by assumption
       have c : h1 ≤ s2 := by assumption
       refine (le3 s2 s1 s0 v1 u1 u0 xs2 xs1 xs0 xu2 xu1 xu0 _).mono ?_; rintro e w' ⟨rfl, hw⟩; rw [hw]; clear hw
       rw [way1 S a b c]
       go_wp2
       go_ret
       exact ⟨rfl, _, rfl⟩)
    | (have a : s0 < p0 := by assumption
       have b : p1 ≤ t1 := by assumption
       have d : s1 < t1 := by assumption
       have c : h1 ≤ s2 := by assumption
       refine (le3 s2 s1 s0 v1 u1 u0 xs2 xs1 xs0 xu2 xu1 xu0 _).mono ?_; rintro e w' ⟨rfl, hw⟩; rw [hw]; clear hw
       rw [way2 S a b d c]
       go_wp2
       go_ret
       exact ⟨rfl, _, rfl⟩)
    | (have a : s0 < p0 := by assumption
       have b : p1 ≤ t1 := by assumption
       have d : t1 ≤ s1 := by assumption
       refine (le3 h1 s1 s0 v1 u1 u0 xp2 xs1 xs0 xu2 xu1 xu0 _).mono ?_; rintro e w' ⟨rfl, hw⟩; rw [hw]; clear hw
       rw [way3 S a b d]
       go_wp2
       go_ret
       exact ⟨rfl, _, rfl⟩)
    | (have a : p0 ≤ s0 := by assumption
       have b : t1 < p1 := by assumption
       have c : h1 ≤ s2 := by assumption
       refine (le3 s2 t1 s0 v1 u1 u0 xs2 xt1 xs0 xu2 xu1 xu0 _).mono ?_; rintro e w' ⟨rfl, hw⟩; rw [hw]; clear hw
       rw [way4 S a b c]
       go_wp2
       go_ret
       exact ⟨rfl, _, rfl⟩)
    | (have a : p0 ≤ s0 := by assumption
       have b : p1 ≤ t1 := by assumption
       refine (le3 h1 t1 s0 v1 u1 u0 xp2 xt1 xs0 xu2 xu1 xu0 _).mono ?_; rintro e w' ⟨rfl, hw⟩; rw [hw]; clear hw
       rw [way5 S a b]
       go_wp2
       go_ret
       exact ⟨rfl, _, rfl⟩)

/-- The law's walk, in its domain. -/
theorem law_in (u2 u1 u0 v1 v0 : Int) (hu2 : Word u2) (hu1 : Word u1) (hu0 : Word u0) (hv1 : Word v1) (hv0 : Word v0) (hp : 9223372036854775808 ≤ v1) (hlt : u2 < v1 ∨ u2 = v1 ∧ u1 < v0) (w : World) :
    Calls Try.prog 4 #[.int .u64 u2, .int .u64 u1, .int .u64 u0, .int .u64 v1, .int .u64 v0] w fun e w' => e = .returned (.bool true) ∧ ∃ n, w' = w.drewN n := by
  have fl := est_floor u2 u1 u0 v1 v0 hu2 hu1 hu0 hv1 hv0 (by omega) hlt
  have qw := est_word u2 u1 u0 v1 v0 hu2 hu1 hu0 hv1 hv0
  obtain ⟨q, hq⟩ : ∃ q, est u2 u1 u0 v1 v0 = q := ⟨_, rfl⟩
  rw [hq] at fl qw
  have g0 := mH_mL q v0
  have g1 := mH_mL q v1
  have b0 := mH_word q v0 qw hv0
  have b1 := mH_word q v1 qw hv1
  have c0 := mL_word q v0
  have c1 := mL_word q v1
  obtain ⟨h0, e0⟩ : ∃ x, mH q v0 = x := ⟨_, rfl⟩
  obtain ⟨p0, f0⟩ : ∃ x, mL q v0 = x := ⟨_, rfl⟩
  obtain ⟨h1, e1⟩ : ∃ x, mH q v1 = x := ⟨_, rfl⟩
  obtain ⟨l1, f1⟩ : ∃ x, mL q v1 = x := ⟨_, rfl⟩
  rw [e0] at g0 b0; rw [f0] at g0 c0; rw [e1] at g1 b1; rw [f1] at g1 c1
  obtain ⟨p1, ep1⟩ : ∃ x, IntKind.u64.wrap (h0 + l1) = x := ⟨_, rfl⟩
  obtain ⟨s0, es0⟩ : ∃ x, IntKind.u64.wrap (p0 + v0) = x := ⟨_, rfl⟩
  obtain ⟨t1, et1⟩ : ∃ x, IntKind.u64.wrap (p1 + v1) = x := ⟨_, rfl⟩
  obtain ⟨s1, es1⟩ : ∃ x, IntKind.u64.wrap (t1 + 1) = x := ⟨_, rfl⟩
  have k1 : (h0 + l1) % 18446744073709551616 = p1 := by rw [← mod64]; exact ep1
  have k2 : (p0 + v0) % 18446744073709551616 = s0 := by rw [← mod64]; exact es0
  have k3 : (p1 + v1) % 18446744073709551616 = t1 := by rw [← mod64]; exact et1
  have k4 : (t1 + 1) % 18446744073709551616 = s1 := by rw [← mod64]; exact es1
  have wp1 : Word p1 := by rw [← k1]; exact word_mod _
  have wh0 : Word h0 := ⟨b0.1, by have := b0.2; omega⟩
  have wh1 : Word h1 := ⟨b1.1, by have := b1.2; omega⟩
  have hvv : v1 / 9223372036854775808 = 1 := by have := hv1.2; omega
  by_cases hc : p1 < h0
  · have P := prod_carry _ _ _ _ _ _ _ g0 g1 k1 wh0.1 wh0.2 c1.1 c1.2 hc
    obtain ⟨p2, ep2⟩ : ∃ x, h1 + 1 = x := ⟨_, rfl⟩
    obtain ⟨s2, es2⟩ : ∃ x, IntKind.u64.wrap (p2 + 1) = x := ⟨_, rfl⟩
    rw [ep2] at P
    rw [← P] at fl
    have hl := le3B_true fl.1
    have S : Sum3 u2 u1 u0 v1 v0 p2 p1 p0 s0 t1 s1 s2 := ⟨fl.2, k2, k3, k4, by rw [← mod64]; exact es2, c0, wp1, ⟨by have := b1.1; omega, by have := b1.2; omega⟩, hv0, hv1⟩
    rcases hlt with hlt | ⟨rfl, hlt⟩
    · exact walk_lt_carry u2 u1 u0 v1 v0 q h0 p0 h1 l1 p1 s0 t1 s1 s2 p2 hu2 hu1 hu0 hv1 hv0 hvv (by omega) hlt (by simp; omega) hq e0 f0 e1 f1 ep1 es0 et1 es1 es2 ep2 hc qw wh0 wh1 b1.2 c1 S hl w
    · exact walk_eq_carry u1 u0 u2 v0 q h0 p0 h1 l1 p1 s0 t1 s1 s2 p2 hu2 hu1 hu0 hv1 hv0 hvv (by omega) hlt hq e0 f0 e1 f1 ep1 es0 et1 es1 es2 ep2 hc qw wh0 wh1 b1.2 c1 S hl w
  · have hc' : h0 ≤ p1 := by omega
    have P := prod_plain _ _ _ _ _ _ _ g0 g1 k1 wh0.1 wh0.2 c1.1 c1.2 hc'
    obtain ⟨s2, es2⟩ : ∃ x, IntKind.u64.wrap (h1 + 1) = x := ⟨_, rfl⟩
    rw [← P] at fl
    have hl := le3B_true fl.1
    have S : Sum3 u2 u1 u0 v1 v0 h1 p1 p0 s0 t1 s1 s2 := ⟨fl.2, k2, k3, k4, by rw [← mod64]; exact es2, c0, wp1, wh1, hv0, hv1⟩
    rcases hlt with hlt | ⟨rfl, hlt⟩
    · exact walk_lt_plain u2 u1 u0 v1 v0 q h0 p0 h1 l1 p1 s0 t1 s1 s2 hu2 hu1 hu0 hv1 hv0 hvv (by omega) hlt (by simp; omega) hq e0 f0 e1 f1 ep1 es0 et1 es1 es2 hc' qw wh0 wh1 b1.2 c1 S hl w
    · exact walk_eq_plain u1 u0 u2 v0 q h0 p0 h1 l1 p1 s0 t1 s1 s2 hu2 hu1 hu0 hv1 hv0 hvv (by omega) hlt hq e0 f0 e1 f1 ep1 es0 et1 es1 es2 hc' qw wh0 wh1 b1.2 c1 S hl w

set_option maxHeartbeats 400000 in
theorem law_low (u2 u1 u0 v1 v0 : Int) (hv : v1 / 9223372036854775808 = 0) (w : World) :
    Calls Try.prog 4 #[.int .u64 u2, .int .u64 u1, .int .u64 u0, .int .u64 v1, .int .u64 v0] w fun e w' => e = .returned (.bool true) ∧ ∃ n, w' = w.drewN n := by
  go_enter Try.func4, Try.ntmps4
  go_wp2
  go_ret
  exact ⟨rfl, 0, rfl⟩
set_option maxHeartbeats 400000 in
theorem law_gt (u2 u1 u0 v1 v0 : Int) (hv : v1 / 9223372036854775808 = 1) (h : v1 < u2) (w : World) :
    Calls Try.prog 4 #[.int .u64 u2, .int .u64 u1, .int .u64 u0, .int .u64 v1, .int .u64 v0] w fun e w' => e = .returned (.bool true) ∧ ∃ n, w' = w.drewN n := by
  go_enter Try.func4, Try.ntmps4
  go_wp2
  go_ret
  exact ⟨rfl, 0, rfl⟩
set_option maxHeartbeats 400000 in
theorem law_eq (u1 u0 v1 v0 : Int) (hv : v1 / 9223372036854775808 = 1) (h : v0 ≤ u1) (w : World) :
    Calls Try.prog 4 #[.int .u64 v1, .int .u64 u1, .int .u64 u0, .int .u64 v1, .int .u64 v0] w fun e w' => e = .returned (.bool true) ∧ ∃ n, w' = w.drewN n := by
  go_enter Try.func4, Try.ntmps4
  go_wp2
  go_ret
  exact ⟨rfl, 0, rfl⟩

theorem law_estimate (u2 u1 u0 v1 v0 : Int) (hu2 : Word u2) (hu1 : Word u1) (hu0 : Word u0) (hv1 : Word v1) (hv0 : Word v0) (w : World) :
    Calls Try.prog 4 #[.int .u64 u2, .int .u64 u1, .int .u64 u0, .int .u64 v1, .int .u64 v0] w fun e w' => e = .returned (.bool true) ∧ ∃ n, w' = w.drewN n := by
  by_cases hp : 9223372036854775808 ≤ v1
  · have hvv : v1 / 9223372036854775808 = 1 := by have := hv1.2; omega
    by_cases h1 : v1 < u2
    · exact law_gt u2 u1 u0 v1 v0 hvv h1 w
    · by_cases h2 : u2 = v1
      · subst h2
        by_cases h3 : v0 ≤ u1
        · exact law_eq u1 u0 u2 v0 hvv h3 w
        · exact law_in u2 u1 u0 u2 v0 hu2 hu1 hu0 hv1 hv0 hp (.inr ⟨rfl, by omega⟩) w
      · exact law_in u2 u1 u0 v1 v0 hu2 hu1 hu0 hv1 hv0 hp (.inl (by omega)) w
  · exact law_low u2 u1 u0 v1 v0 (by have := hv1.1; omega) w

end Go.Proofs.Qxb6620824a
