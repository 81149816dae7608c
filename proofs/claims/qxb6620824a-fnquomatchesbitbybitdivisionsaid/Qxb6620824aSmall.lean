/-
  THE SMALL FUNCTIONS: mulAddAdd, isNormal, eqWords, trimWords, trim, bufferFrom, cloneWords.
-/
import Derived.Test.Qxb6620824aMem
import Derived.Test.Qxb6620824aBits
set_option linter.unusedVariables false
namespace Go.Proofs.Qxb6620824a
open Go.RowKit Plain

theorem ret2_eq {k : IntKind} {a a' b b' : Int} (h : a = a') (h' : b = b') : Ending.returned (.tuple #[.int k a, .int k b]) = .returned (.tuple #[.int k a', .int k b']) := by rw [h, h']
theorem ret_bool_eq {a b : Bool} (h : a = b) : Ending.returned (.bool a) = .returned (.bool b) := by rw [h]
theorem ret_int_eq {k : IntKind} {a b : Int} (h : a = b) : Ending.returned (.int k a) = .returned (.int k b) := by rw [h]
/-- x y + a + b: the high word; the low word. -/
def maH (x y a b : Int) : Int := (x * y + a + b) / 18446744073709551616
def maL (x y a b : Int) : Int := (x * y + a + b) % 18446744073709551616
theorem ma_split (x y a b : Int) : maH x y a b * 18446744073709551616 + maL x y a b = x * y + a + b := by unfold maH maL; omega
theorem maL_word (x y a b : Int) : Word (maL x y a b) := by unfold maL Word; omega
theorem maH_word {x y a b : Int} (hx : Word x) (hy : Word y) (ha : Word a) (hb : Word b) : Word (maH x y a b) := by
  have := mul_words x y hx hy
  obtain ⟨_, _⟩ := ha; obtain ⟨_, _⟩ := hb
  unfold maH Word; omega

theorem aS_word0 (x y : Int) : 0 ≤ aS x y 0 := by unfold aS; omega
theorem ma_facts (x y a b : Int) (hx : Word x) (hy : Word y) (ha : Word a) (hb : Word b) :
    0 ≤ aC (mL x y) a 0 ∧ aC (mL x y) a 0 ≤ 1 ∧ 0 ≤ aC (aS (mL x y) a 0) b 0 ∧ aC (aS (mL x y) a 0) b 0 ≤ 1 ∧ mH x y + aC (mL x y) a 0 + aC (aS (mL x y) a 0) b 0 = maH x y a b ∧ aS (aS (mL x y) a 0) b 0 = maL x y a b := by
  have h := mul_words x y hx hy
  have e := mH_mL x y
  obtain ⟨l0, l1⟩ := mL_word x y
  obtain ⟨_, _⟩ := ha; obtain ⟨_, _⟩ := hb
  unfold aC aS maH maL
  generalize mH x y = H at *
  generalize mL x y = L at *
  generalize x * y = P at *
  refine ⟨by omega, by omega, by omega, by omega, by omega, by omega⟩

set_option maxHeartbeats 400000 in
theorem mulAddAdd (x y a b : Int) (hx : Word x) (hy : Word y) (ha : Word a) (hb : Word b) (w : World) :
    Calls Try.prog 37 #[.int .u64 x, .int .u64 y, .int .u64 a, .int .u64 b] w fun e w' => e = .returned (.tuple #[.int .u64 (maH x y a b), .int .u64 (maL x y a b)]) ∧ w' = w := by
  obtain ⟨f1, f2, f3, f4, f5, f6⟩ := ma_facts x y a b hx hy ha hb
  have F : Hid _ := f5
  have F6 : Hid _ := f6
  have hw := maH_word hx hy ha hb
  rw [← f5] at hw
  have b1 := mH_word x y hx hy
  have hl := (mL_word x y).1
  have hs := (aS_word0 (mL x y) a)
  obtain ⟨g1, g2⟩ := hw
  obtain ⟨x0, x1⟩ := hx; obtain ⟨y0, y1⟩ := hy; obtain ⟨a0, a1⟩ := ha; obtain ⟨b0, b1'⟩ := hb
  clear f5 f6
  go_enter Try.func37, Try.ntmps37
  go_wp2_with (first | (go_at_call 33; refine (bMul x y x0 x1 y0 y1 _).mono ?_; rintro e w' ⟨rfl, hw⟩; rw [hw]; clear hw) | (go_at_call_of 34 (Value.int IntKind.u64 a); refine (bAdd (mL x y) a 0 hl a0 (by decide) (by decide) _).mono ?_; rintro e w' ⟨rfl, hw⟩; rw [hw]; clear hw) | (go_at_call 34; refine (bAdd _ b 0 hs b0 (by decide) (by decide) _).mono ?_; rintro e w' ⟨rfl, hw⟩; rw [hw]; clear hw))
  go_ret2
  exact ⟨ret2_eq F.out F6.out, rfl⟩

/-- No zero word on top: asked by isNormal. -/
def normB (l : List Int) : Bool := decide (l.length = 0) || (nth l (l.length - 1) != 0)
theorem normB_iff (l : List Int) : normB l = true ↔ Norm l := by
  unfold normB Norm
  simp

set_option maxHeartbeats 400000 in
theorem isNormal {base : Nat} {w : World} {a : Option Addr} {n : Nat} {l : List Int} (cap : Nat) (S : Sl base w a n l) (hn : n ≤ 1000000) :
    Calls Try.prog 9 #[.slice a n cap] w fun e w' => e = .returned (.bool (normB l)) ∧ w' = w := by
  have HN : Hid (l.length = n) := S.len
  by_cases h0 : n = 0
  · subst h0
    have HB : Hid (true = normB l) := by show true = _; unfold normB; rw [S.len]; rfl
    go_enter Try.func9, Try.ntmps9
    go_wp2
    go_ret
    exact ⟨ret_bool_eq HB.out, rfl⟩
  · obtain ⟨b, off, rfl, hlt, hc⟩ := S.at (k := n - 1) (by omega)
    obtain ⟨m, rfl⟩ : ∃ m, n = m + 1 := ⟨n - 1, by omega⟩
    have hcell := hc m (by omega)
    have HB : Hid ((nth l m != 0) = normB l) := by show _ = _; unfold normB; rw [S.len]; simp
    clear hc S h0
    go_enter Try.func9, Try.ntmps9
    go_wp2
    go_ret
    exact ⟨ret_bool_eq HB.out, rfl⟩

theorem eq_step (l m : List Int) (n : Nat) (hl : l.length = n) (hm : m.length = n) (h : ∀ j, j < n → nth l j = nth m j) : l = m := by
  apply List.ext_getElem (by omega)
  intro i h1 h2
  have := h i (by omega)
  unfold nth at this
  simpa [List.getD_eq_getElem?_getD, h1, h2] using this

set_option maxHeartbeats 400000 in
/-- eqWords at equal lists. -/
theorem eqWords_same {base : Nat} {w : World} {a a' : Option Addr} {n : Nat} {l : List Int} (cap cap' : Nat) (S : Sl base w a n l) (S' : Sl base w a' n l) (hn : n ≤ 1000000) :
    Calls Try.prog 14 #[.slice a n cap, .slice a' n cap'] w fun e w' => e = .returned (.bool true) ∧ ∃ q, w' = w.drewN q := by
  go_enter Try.func14, Try.ntmps14
  go_wp2
  go_loopw [5] (fun i wr => ∃ (k : Nat) (q : Nat), k ≤ n ∧ i = .int .i64 k ∧ wr = w.drewN q) (fun i _ => n - (intOf i).toNat)
  case atStart => exact ⟨0, 0, by omega, rfl, rfl⟩
  case round =>
    obtain ⟨k, q, hk, rfl, rfl⟩ := hrel
    by_cases hlt : k < n
    · obtain ⟨b, off, rfl, hb, hc⟩ := S.at hlt
      obtain ⟨b', off', rfl, hb', hc'⟩ := S'.at hlt
      have c1 := hc k hlt
      have c2 := hc' k hlt
      have i1 : (k : Int) < (n : Int) := by omega
      clear hc hc' S S'
      go_wp2
      go_quiet (fail)
      go_wp2
      go_roundw
      case rel => exact ⟨k + 1, _, by omega, by go_num, rfl⟩
      case measure => simp [intOf]; omega
    · go_wp2
      go_ret
      exact ⟨rfl, _, rfl⟩

end Go.Proofs.Qxb6620824a
