/-
  cmpNat: two numbers without a zero word on top are compared.
-/
import Derived.Test.Qxb6620824aSmall2
set_option linter.unusedVariables false
namespace Go.Proofs.Qxb6620824a
open Go.RowKit Plain

/-- -1, 0, 1. -/
def cmpZ (u v : Int) : Int := if u < v then -1 else if u = v then 0 else 1
theorem cmpZ_lt {u v : Int} (h : u < v) : cmpZ u v = -1 := by unfold cmpZ; rw [if_pos h]
theorem cmpZ_eq {u v : Int} (h : u = v) : cmpZ u v = 0 := by unfold cmpZ; rw [if_neg (by omega), if_pos h]
theorem cmpZ_gt {u v : Int} (h : v < u) : cmpZ u v = 1 := by unfold cmpZ; rw [if_neg (by omega), if_neg (by omega)]

theorem len_lt {a b : List Int} (ha : Words a) (hb : Words b) (nb : Norm b) (h : a.length < b.length) : val a < val b := by
  have h1 := (val_bound ha).2
  have h2 := norm_ge hb nb (by omega)
  have h3 := pw_le (show a.length ≤ b.length - 1 by omega)
  omega

theorem pre_same (a b : List Int) (t : Nat) : ∀ n, t ≤ n → (∀ j, t ≤ j → j < n → nth a j = nth b j) → pre a n - pre b n = pre a t - pre b t
  | 0, h, _ => by obtain rfl : t = 0 := by omega
                  rfl
  | n + 1, h, he => by
    by_cases hn : t = n + 1
    · rw [hn]
    · rw [pre_succ', pre_succ' b, he n (by omega) (by omega)]
      have := pre_same a b t n (by omega) (fun j h1 h2 => he j h1 (by omega))
      omega

theorem top_lt {a b : List Int} (ha : Words a) (hb : Words b) (n t : Nat) (la : a.length = n) (lb : b.length = n) (ht : t < n) (he : ∀ j, t + 1 ≤ j → j < n → nth a j = nth b j) (h : nth a t < nth b t) : val a < val b := by
  have e := pre_same a b (t + 1) n (by omega) he
  rw [pre_succ', pre_succ' b] at e
  have h1 := pre_bound ha t
  have h2 := pre_bound hb t
  have h3 : (nth a t + 1) * pw t ≤ nth b t * pw t := Int.mul_le_mul_of_nonneg_right (by omega) (by have := pw_pos t; omega)
  rw [Int.add_mul, Int.one_mul] at h3
  rw [← pre_all, la, ← pre_all, lb]
  omega

set_option maxHeartbeats 1000000 in
theorem cmpNat {base : Nat} {w : World} {pa pb : Option Addr} {na nb : Nat} {a b : List Int} (ca cb : Nat) (Sa : Sl base w pa na a) (Sb : Sl base w pb nb b) (Na : Norm a) (Nb : Norm b) (ha : na ≤ 1000000) (hb : nb ≤ 1000000) :
    Calls Try.prog 22 #[.slice pa na ca, .slice pb nb cb] w fun e w' => e = .returned (.int .i64 (cmpZ (val a) (val b))) ∧ ∃ q, w' = w.drewN q := by
  have HAl : Hid (a.length = na) := Sa.len
  have HBl : Hid (b.length = nb) := Sb.len
  rcases Nat.lt_trichotomy na nb with hlt | heq | hgt
  · have HC : Hid (cmpZ (val a) (val b) = -1) := cmpZ_lt (len_lt Sa.word Sb.word Nb (by rw [HAl.out, HBl.out]; exact hlt))
    have hne : ((na : Int) != (nb : Int)) = true := by simp; omega
    go_enter Try.func22, Try.ntmps22
    go_wp2
    go_ret
    exact ⟨ret_int_eq HC.out.symm, 0, rfl⟩
  · subst heq
    go_enter Try.func22, Try.ntmps22
    go_wp2
    go_loopw [5] (fun i wr => ∃ (t : Nat) (q : Nat), t ≤ na ∧ i = .int .i64 ((t : Int) - 1) ∧ (∀ j, t ≤ j → j < na → nth a j = nth b j) ∧ wr = w.drewN q) (fun i _ => (intOf i + 1).toNat)
    case atStart => exact ⟨na, 0, by omega, by go_num, fun j h1 h2 => by omega, rfl⟩
    case round =>
      obtain ⟨t, q, ht, rfl, he, rfl⟩ := hrel
      have HE : Hid _ := he
      clear he
      by_cases h0 : 0 < t
      · obtain ⟨s, rfl⟩ : ∃ s, t = s + 1 := ⟨t - 1, by omega⟩
        have hs : ((s + 1 : Nat) : Int) - 1 = (s : Int) := by omega
        rw [hs]
        obtain ⟨ba, oa, rfl, hba, hca⟩ := Sa.at (k := s) (by omega)
        obtain ⟨bb, ob, rfl, hbb, hcb⟩ := Sb.at (k := s) (by omega)
        have c1 := hca s (by omega)
        have c2 := hcb s (by omega)
        have i1 : (s : Int) < (na : Int) := by omega
        have wa := Sa.word; have wb' := Sb.word
        rcases Int.lt_trichotomy (nth a s) (nth b s) with hd | hd | hd
        · have HC : Hid (cmpZ (val a) (val b) = -1) := cmpZ_lt (top_lt wa wb' na s HAl.out HBl.out (by omega) HE.out hd)
          have hne : (nth a s != nth b s) = true := by simp; omega
          clear hca hcb Sa Sb hs
          go_wp2
          go_quiet (fail)
          go_wp2
          go_quiet (fail)
          go_wp2
          go_ret
          refine ⟨ret_int_eq HC.out.symm, ?_⟩
          rw [World.drewN_drewN, World.drewN_drewN]
          exact ⟨_, rfl⟩
        · have HD : Hid (nth a s = nth b s) := hd
          rw [hd] at c1
          clear hca hcb Sa Sb hs hd
          go_wp2
          go_quiet (fail)
          go_wp2
          go_roundw
          case rel => exact ⟨s, _, by omega, by go_num, fun j h1 h2 => by
            by_cases hj : j = s
            · rw [hj]; exact HD.out
            · exact HE.out j (by omega) h2, rfl⟩
          case measure => simp [intOf]
        · have HC : Hid (cmpZ (val a) (val b) = 1) := cmpZ_gt (top_lt wb' wa na s HBl.out HAl.out (by omega) (fun j h1 h2 => (HE.out j h1 h2).symm) hd)
          have hne : (nth a s != nth b s) = true := by simp; omega
          have hle : nth b s ≤ nth a s := by omega
          clear hca hcb Sa Sb hs
          go_wp2
          go_quiet (fail)
          go_wp2
          go_quiet (fail)
          go_wp2
          go_ret
          refine ⟨ret_int_eq HC.out.symm, ?_⟩
          rw [World.drewN_drewN, World.drewN_drewN]
          exact ⟨_, rfl⟩
      · obtain rfl : t = 0 := by omega
        have HC : Hid (cmpZ (val a) (val b) = 0) := cmpZ_eq (by rw [eq_step a b na HAl.out HBl.out fun j hj => HE.out j (by omega) hj])
        go_wp2
        go_ret
        exact ⟨ret_int_eq HC.out.symm, _, rfl⟩
  · have HC : Hid (cmpZ (val a) (val b) = 1) := cmpZ_gt (len_lt Sb.word Sa.word Na (by rw [HAl.out, HBl.out]; exact hgt))
    have hne : ((na : Int) != (nb : Int)) = true := by simp; omega
    go_enter Try.func22, Try.ntmps22
    go_wp2
    go_ret
    exact ⟨ret_int_eq HC.out.symm, 0, rfl⟩

end Go.Proofs.Qxb6620824a
