/-
  addAcc, modelMulAdd: the column product.
-/
import Derived.Test.Qxb6620824aSmall2
import Derived.Test.Qxb6620824aCol
set_option linter.unusedVariables false
namespace Go.Proofs.Qxb6620824a
open Go.RowKit Plain

theorem ret3_eq {a a' b b' c c' : Int} (h : a = a') (h' : b = b') (h'' : c = c') : Ending.returned (.tuple #[.int .u64 a, .int .u64 b, .int .u64 c]) = .returned (.tuple #[.int .u64 a', .int .u64 b', .int .u64 c']) := by rw [h, h', h'']
theorem mod64' (x : Int) : IntKind.u64.wrap x = x % 18446744073709551616 := IntKind.wrap_u64 x
theorem word_mod' (x : Int) : Word (x % 18446744073709551616) := by unfold Word; omega
theorem over (p v s : Int) (k : (p + v) % 18446744073709551616 = s) (hp : Word p) (hv : Word v) (h : s < p) : p + v = s + 18446744073709551616 := by obtain ⟨_, _⟩ := hp; obtain ⟨_, _⟩ := hv; omega
theorem under (p v s : Int) (k : (p + v) % 18446744073709551616 = s) (hp : Word p) (hv : Word v) (h : p ≤ s) : p + v = s := by obtain ⟨_, _⟩ := hp; obtain ⟨_, _⟩ := hv; omega
theorem w1 : Word 1 := ⟨by decide, by decide⟩

set_option maxHeartbeats 1000000 in
theorem addAcc_core (c0 c1 c2 lo hi s0 s1 s1b : Int) (h0 : Word c0) (h1 : Word c1) (h2 : 0 ≤ c2) (h2' : c2 < 1000000) (hl : Word lo) (hh : Word hi)
    (e0 : IntKind.u64.wrap (c0 + lo) = s0) (e1 : IntKind.u64.wrap (c1 + hi) = s1) (e2 : IntKind.u64.wrap (s1 + 1) = s1b) (w : World) :
    Calls Try.prog 36 #[.int .u64 c0, .int .u64 c1, .int .u64 c2, .int .u64 lo, .int .u64 hi] w fun e w' => (∃ a b c, e = .returned (.tuple #[.int .u64 a, .int .u64 b, .int .u64 c]) ∧ Word a ∧ Word b ∧ a + b * 18446744073709551616 + c * 340282366920938463463374607431768211456 = c0 + c1 * 18446744073709551616 + c2 * 340282366920938463463374607431768211456 + lo + hi * 18446744073709551616) ∧ w' = w := by
  have k0 : Hid ((c0 + lo) % 18446744073709551616 = s0) := by show _ = _; rw [← mod64']; exact e0
  have k1 : Hid ((c1 + hi) % 18446744073709551616 = s1) := by show _ = _; rw [← mod64']; exact e1
  have k2 : Hid ((s1 + 1) % 18446744073709551616 = s1b) := by show _ = _; rw [← mod64']; exact e2
  have ws0 : Word s0 := by rw [← k0.out]; exact word_mod' _
  have ws1 : Word s1 := by rw [← k1.out]; exact word_mod' _
  have ws2 : Word s1b := by rw [← k2.out]; exact word_mod' _
  have x0 := h0; have x1 := h1; have xl := hl; have xh := hh; have y0 := ws0; have y1 := ws1; have y2 := ws2
  obtain ⟨a0, a0'⟩ := h0; obtain ⟨a1, a1'⟩ := h1; obtain ⟨al, al'⟩ := hl; obtain ⟨ah, ah'⟩ := hh
  obtain ⟨b0, b0'⟩ := ws0; obtain ⟨b1, b1'⟩ := ws1; obtain ⟨b2, b2'⟩ := ws2
  go_enter Try.func36, Try.ntmps36
  go_wp2
  all_goals first
    | (have A : s0 < c0 := by assumption
       have B : s1 < c1 := by assumption
       go_ret3
       have p := over _ _ _ k0.out x0 xl A
       have q := over _ _ _ k1.out x1 xh B
       have hs : s1b = s1 + 1 := by have := k2.out; omega
       refine ⟨⟨_, _, _, rfl, y0, y2, ?_⟩, rfl⟩
       clear k0 k1 k2
       omega)
    | (have A : s0 < c0 := by assumption
       have B : c1 ≤ s1 := by assumption
       have C : s1b < s1 := by assumption
       go_ret3
       have p := over _ _ _ k0.out x0 xl A
       have q := under _ _ _ k1.out x1 xh B
       have r := over _ _ _ k2.out y1 w1 C
       refine ⟨⟨_, _, _, rfl, y0, y2, ?_⟩, rfl⟩
       clear k0 k1 k2
       omega)
    | (have A : s0 < c0 := by assumption
       have B : c1 ≤ s1 := by assumption
       have C : s1 ≤ s1b := by assumption
       go_ret3
       have p := over _ _ _ k0.out x0 xl A
       have q := under _ _ _ k1.out x1 xh B
       have r := under _ _ _ k2.out y1 w1 C
       refine ⟨⟨_, _, _, rfl, y0, y2, ?_⟩, rfl⟩
       clear k0 k1 k2
       omega)
    | (have A : c0 ≤ s0 := by assumption
       have B : s1 < c1 := by assumption
       go_ret3
       have p := under _ _ _ k0.out x0 xl A
       have q := over _ _ _ k1.out x1 xh B
       refine ⟨⟨_, _, _, rfl, y0, y1, ?_⟩, rfl⟩
       clear k0 k1 k2
       omega)
    | (have A : c0 ≤ s0 := by assumption
       have B : c1 ≤ s1 := by assumption
       go_ret3
       have p := under _ _ _ k0.out x0 xl A
       have q := under _ _ _ k1.out x1 xh B
       refine ⟨⟨_, _, _, rfl, y0, y1, ?_⟩, rfl⟩
       clear k0 k1 k2
       omega)

/-- addAcc: the accumulator T (three words) takes lo + hi B in. -/
theorem addAcc (T lo hi : Int) (hT : 0 ≤ T) (hT' : T < 340282366920938463463374607431768211456000000) (hl : Word lo) (hh : Word hi) (w : World) :
    Calls Try.prog 36 #[.int .u64 (t0 T), .int .u64 (t1 T), .int .u64 (t2 T), .int .u64 lo, .int .u64 hi] w fun e w' => e = .returned (.tuple #[.int .u64 (t0 (T + lo + hi * 18446744073709551616)), .int .u64 (t1 (T + lo + hi * 18446744073709551616)), .int .u64 (t2 (T + lo + hi * 18446744073709551616))]) ∧ w' = w := by
  have s := t2_small T hT hT'
  refine (addAcc_core (t0 T) (t1 T) (t2 T) lo hi _ _ _ (t0_word T) (t1_word T) s.1 s.2 hl hh rfl rfl rfl w).mono fun e w' ⟨⟨a, b, c, he, ha, hb, hs⟩, hw⟩ => ?_
  rw [t_sum] at hs
  obtain ⟨f0, f1, f2⟩ := t_of _ _ _ _ ha hb hs
  exact ⟨by rw [he]; exact ret3_eq f0 f1 f2, hw⟩
theorem addAcc0 (T lo : Int) (hT : 0 ≤ T) (hT' : T < 340282366920938463463374607431768211456000000) (hl : Word lo) (w : World) :
    Calls Try.prog 36 #[.int .u64 (t0 T), .int .u64 (t1 T), .int .u64 (t2 T), .int .u64 lo, .int .u64 0] w fun e w' => e = .returned (.tuple #[.int .u64 (t0 (T + lo)), .int .u64 (t1 (T + lo)), .int .u64 (t2 (T + lo))]) ∧ w' = w := by
  have h := addAcc T lo 0 hT hT' hl word_zero w
  rwa [show T + lo + 0 * 18446744073709551616 = T + lo by omega] at h
theorem addAccM (T x y : Int) (hT : 0 ≤ T) (hT' : T < 340282366920938463463374607431768211456000000) (hx : Word x) (hy : Word y) (w : World) :
    Calls Try.prog 36 #[.int .u64 (t0 T), .int .u64 (t1 T), .int .u64 (t2 T), .int .u64 (mL x y), .int .u64 (mH x y)] w fun e w' => e = .returned (.tuple #[.int .u64 (t0 (T + x * y)), .int .u64 (t1 (T + x * y)), .int .u64 (t2 (T + x * y))]) ∧ w' = w := by
  have b := mH_word x y hx hy
  have h := addAcc T (mL x y) (mH x y) hT hT' (mL_word x y) ⟨b.1, by have := b.2; omega⟩ w
  have e := mH_mL x y
  rwa [show T + mL x y + mH x y * 18446744073709551616 = T + x * y by omega] at h

end Go.Proofs.Qxb6620824a
