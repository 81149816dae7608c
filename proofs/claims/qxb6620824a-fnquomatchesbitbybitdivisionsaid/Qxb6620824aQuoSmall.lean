/-
  shiftedTop, wordBelow, quoWord.
-/
import Derived.Test.Qxb6620824aQuoMath2
import Derived.Test.Qxb6620824aSmall2
import Derived.Test.Qxb6620824aEstimate
set_option linter.unusedVariables false
namespace Go.Proofs.Qxb6620824a
open Go.RowKit Plain

theorem pr_of (k : Nat) (hk : k < 64) : (0 : Int) < 2 ^ k ∧ (0 : Int) < 2 ^ (64 - k) ∧ (2 : Int) ^ k * 2 ^ (64 - k) = 18446744073709551616 := by
  refine ⟨Int.pow_pos (by decide), Int.pow_pos (by decide), ?_⟩
  rw [← Int.pow_add, show k + (64 - k) = 64 by omega]; rfl

theorem and63 (k : Nat) (hk : k < 64) : bits BinOp.and IntKind.u64 (k : Int) 63 = (k : Int) := by
  have h := bits_and_u64_nat k 63 (by omega) (by omega)
  have e : k &&& 63 = k % 64 := Nat.and_two_pow_sub_one_eq_mod k 6
  rw [e, Nat.mod_eq_of_lt hk] at h
  exact h

theorem or_shift (hi lo : Int) (k : Nat) (hk : k < 64) (h0 : 0 ≤ hi) (l0 : 0 ≤ lo) (l1 : lo < 18446744073709551616) :
    bits BinOp.or IntKind.u64 (IntKind.u64.wrap (hi * 2 ^ k)) (lo / 2 / 2 ^ (63 - k)) = sT (2 ^ k) (2 ^ (64 - k)) hi lo := by
  obtain ⟨hp, hr, hpr⟩ := pr_of k hk
  have e1 : lo / 2 / 2 ^ (63 - k) = lo / 2 ^ (64 - k) := by
    rw [Int.ediv_ediv_of_nonneg (by decide), show 64 - k = (63 - k) + 1 by omega, Int.pow_succ, Int.mul_comm]
  have e2 : hi * 2 ^ k % 18446744073709551616 = hi % 2 ^ (64 - k) * 2 ^ k := by
    rw [← hpr, Int.mul_comm hi, Int.mul_emod_mul_of_pos _ _ hp, Int.mul_comm]
  have a0 := Int.emod_nonneg hi (show (2 : Int) ^ (64 - k) ≠ 0 by omega)
  have a1 := Int.emod_lt_of_pos hi hr
  have b0 : 0 ≤ lo / 2 ^ (64 - k) := Int.ediv_nonneg l0 (by omega)
  have b1 : lo / 2 ^ (64 - k) < 2 ^ k := (Int.ediv_lt_iff_lt_mul hr).2 (by omega)
  have hw := word_mod (hi * 2 ^ k)
  rw [e2] at hw
  have c1 : hi % 2 ^ (64 - k) * 2 ^ k + 2 ^ k ≤ 18446744073709551616 := by
    have : (hi % 2 ^ (64 - k) + 1) * 2 ^ k ≤ 2 ^ (64 - k) * 2 ^ k := Int.mul_le_mul_of_nonneg_right (by omega) (by omega)
    rw [Int.add_mul, Int.one_mul, Int.mul_comm (2 ^ (64 - k)), hpr] at this
    exact this
  rw [e1, mod64, e2, or_add k _ _ a0 b0 b1 hw.2 (by omega)]
  unfold sT
  rw [e2]

/-- nat.shiftedTop. -/
theorem shiftedTop (hi lo P R : Int) (k : Nat) (hk : k < 64) (hP : P = 2 ^ k) (hR : R = 2 ^ (64 - k)) (hh : Word hi) (hl : Word lo) (w : World) :
    Calls Try.prog 30 #[.int .u64 hi, .int .u64 lo, .int .u64 (k : Int)] w fun e w' => e = .returned (.int .u64 (sT P R hi lo)) ∧ w' = w := by
  have HE : Hid (bits BinOp.or IntKind.u64 (IntKind.u64.wrap (hi * 2 ^ k)) (lo / 2 / 2 ^ (63 - k)) = sT P R hi lo) := by
    show _ = _; rw [hP, hR]; exact or_shift hi lo k hk hh.1 hl.1 hl.2
  have ha := and63 k hk
  obtain ⟨_, _⟩ := hh; obtain ⟨_, _⟩ := hl
  clear hP hR
  go_enter Try.func30, Try.ntmps30
  go_wp2
  go_ret
  exact ⟨ret_int_eq HE.out, rfl⟩

/-- nat.wordBelow. -/
theorem wordBelow_zero (v : Value) (w : World) : Calls Try.prog 31 #[v, .int .i64 0] w fun e w' => e = .returned (.int .u64 0) ∧ w' = w := by
  go_enter Try.func31, Try.ntmps31
  go_wp2
  go_ret
  exact ⟨rfl, rfl⟩
theorem wordBelow_succ (b off n c t : Nat) (x : Int) (p : Int) (hp : p = (t : Int) + 1) (ht : t < n) (hn : n ≤ 1000000) (w : World) (hc : w.cell? ⟨b, off + t, none⟩ = some (.int .u64 x)) :
    Calls Try.prog 31 #[.slice (some ⟨b, off, none⟩) n c, .int .i64 p] w fun e w' => e = .returned (.int .u64 x) ∧ w' = w := by
  subst hp
  have h1 : (t : Int) < (n : Int) := by omega
  have h2 : ((t : Int) + 1 == 0) = false := by simp; omega
  go_enter Try.func31, Try.ntmps31
  go_wp2
  go_ret
  exact ⟨rfl, rfl⟩

theorem dQ_word (r x d : Int) (h0 : 0 ≤ r) (h1 : r < d) (hx : Word x) (hd : d < 18446744073709551616) : Word (dQ r x d) := by
  obtain ⟨a, b⟩ := hx
  unfold dQ
  exact ⟨Int.ediv_nonneg (by omega) (by omega), quo_lt_base _ _ _ (by omega) (by omega)⟩

set_option maxHeartbeats 1000000 in
/-- nat.quoWord: a one-word divisor. z's row is another than x's. -/
theorem quoWord {w : World} {bx bz : Nat} {x Z : List Int} (nx cx nz cz : Nat) (d : Int) (hd : 0 < d) (hd' : d < 18446744073709551616) (hbz : bx < bz) (hx : Blk w bx x) (wx : Words x) (hnx : nx ≤ x.length) (hx0 : 0 < nx) (hxm : nx ≤ 100000)
    (hnorm : nth x (nx - 1) ≠ 0) (HB : Step bz bz w w w.heap.size Z) (hz : Z.length = cz) (hcz : nx ≤ cz) (hczm : cz ≤ 1000000) (hnz : nz ≤ cz) :
    Calls Try.prog 28 #[.slice (some ⟨bz, 0, none⟩) nz cz, .slice (some ⟨bx, 0, none⟩) nx cx, .int .u64 d] w fun e w' => ∃ m Z', e = .returned (.slice (some ⟨bz, 0, none⟩) m cz) ∧ Z'.length = cz ∧ m ≤ nx ∧ val (Z'.take m) = pre x nx / d ∧ Norm (Z'.take m) ∧ Step bz bz w w' w.heap.size Z' := by
  obtain ⟨p, rfl⟩ : ∃ p, nx = p + 1 := ⟨nx - 1, by omega⟩
  rw [Nat.add_sub_cancel] at hnorm
  have HZ : Hid (Z.length = cz) := hz
  have HN : Hid (nth x p ≠ 0) := hnorm
  have dp := hx.cell (k := p) (by omega)
  have wp := nth_word wx p
  have wp0 := wp.1
  have Hx : Hid (Blk w bx x) := hx
  have hpp : 0 ≤ pw p := by have := pw_pos p; omega
  have HPP : Hid (0 < pw p) := pw_pos p
  clear hz hnorm hx
  by_cases hlt : nth x p < d
  · -- the top word is below d
    have WS : WInv x Z d p p (pre x (p + 1)) (nth x p) := ⟨by rw [pre_succ' x p]; omega, wp0, hlt⟩
    have HWS : Hid _ := WS
    clear WS
    go_enter Try.func28, Try.ntmps28
    go_wp2
    go_loopw [8, 9] (fun r i wr => ∃ (t : Nat) (u : Int) (L : List Int), t ≤ p ∧ r = .int .u64 u ∧ i = .int .i64 ((t : Int) - 1) ∧ L.length = cz ∧ WInv x L d (p) t (pre x (p + 1)) u ∧ Step bz bz w wr w.heap.size L) (fun _ i _ => (intOf i + 1).toNat)
    case atStart => exact ⟨p, _, Z, by omega, rfl, by go_num, HZ.out, HWS.out, HB⟩
    case round =>
      clear HWS
      obtain ⟨t, u, L, ht, rfl, rfl, hL, R, ST⟩ := hrel
      have HL : Hid (L.length = cz) := hL
      have HR : Hid _ := R
      have HST : Hid _ := ST
      have u0 := R.r0
      have u1 := R.r1
      by_cases h0 : 0 < t
      · obtain ⟨q, rfl⟩ : ∃ q, t = q + 1 := ⟨t - 1, by omega⟩
        have hq : ((q + 1 : Nat) : Int) - 1 = (q : Int) := by omega
        rw [hq]
        have d2 : wr.cell? ⟨bx, q, none⟩ = some (.int .u64 (nth x q)) := (ST.below.cell (p := ⟨bx, q, none⟩) hbz).trans (Hx.out.cell (by omega))
        have d4 := ST.blk.cell (k := q) (by omega)
        have d5 := ST.blk.free q
        have e1 : (q : Int) < (p : Int) + 1 := by omega
        have e2 : (q : Int) < (p : Int) := by omega
        have wq := nth_word wx q
        have wq0 := wq.1
        have wq1 := wq.2
        have RN := R.next wx (by omega) (by omega)
        have SN := ST.set (Nat.le_refl _) q (dQ_word u (nth x q) d u0 u1 wq hd')
        clear hL R ST hq
        go_wp2_with (go_at_call 39; refine (bDiv u (nth x q) d u0 wq0 wq1 u1 hd' _).mono ?_; rintro e w' ⟨rfl, nn, hw⟩; rw [hw]; clear hw)
        go_roundw
        case rel => exact ⟨q, _, _, by omega, rfl, by go_num, by rw [List.length_set]; exact HL.out, RN, SN.drewN nn⟩
        case measure => simp [intOf]
      · obtain rfl : t = 0 := by omega
        obtain ⟨hA, hB⟩ : pre L p = pre x (p + 1) / d ∧ Norm (L.take p) := by
          have hv := R.done
          refine ⟨hv, norm_take L p (by rw [HL.out]; omega) ?_⟩
          by_cases h0 : p = 0
          · exact .inl h0
          · refine .inr fun hz => ?_
            obtain ⟨r, rfl⟩ : ∃ r, p = r + 1 := ⟨p - 1, by omega⟩
            rw [Nat.add_sub_cancel] at hz
            have hb := pre_bound ST.word r
            have e1 : pre L (r + 1) = pre L r := by rw [pre_succ', hz]; omega
            have : pw r ≤ pre x (r + 1 + 1) / d := by
              refine (Int.le_ediv_iff_mul_le hd).2 ?_
              have h1 : 1 * pw (r + 1) ≤ nth x (r + 1) * pw (r + 1) := Int.mul_le_mul_of_nonneg_right (by have := HN.out; omega) hpp
              have h2 := (pre_bound wx (r + 1)).1
              have h3 : pw r * d ≤ pw r * 18446744073709551616 := Int.mul_le_mul_of_nonneg_left (by omega) (by have := pw_pos r; omega)
              rw [pre_succ' x (r + 1)]
              have h4 : pw (r + 1) = 18446744073709551616 * pw r := rfl
              omega
            omega
        have HA : Hid _ := hA
        have HBn : Hid _ := hB
        clear hA hB hL R ST
        go_wp2
        go_ret
        exact ⟨p, L, rfl, HL.out, by omega, HA.out, HBn.out, HST.out⟩
  · have WS : WInv x Z d (p + 1) (p + 1) (pre x (p + 1)) 0 := ⟨by omega, by omega, hd⟩
    have HWS : Hid _ := WS
    have hge : d ≤ nth x p := by omega
    clear WS
    go_enter Try.func28, Try.ntmps28
    go_wp2
    go_loopw [8, 9] (fun r i wr => ∃ (t : Nat) (u : Int) (L : List Int), t ≤ p + 1 ∧ r = .int .u64 u ∧ i = .int .i64 ((t : Int) - 1) ∧ L.length = cz ∧ WInv x L d (p + 1) t (pre x (p + 1)) u ∧ Step bz bz w wr w.heap.size L) (fun _ i _ => (intOf i + 1).toNat)
    case atStart => exact ⟨p + 1, _, Z, by omega, rfl, by go_num, HZ.out, HWS.out, HB⟩
    case round =>
      clear HWS
      obtain ⟨t, u, L, ht, rfl, rfl, hL, R, ST⟩ := hrel
      have HL : Hid (L.length = cz) := hL
      have HR : Hid _ := R
      have HST : Hid _ := ST
      have u0 := R.r0
      have u1 := R.r1
      by_cases h0 : 0 < t
      · obtain ⟨q, rfl⟩ : ∃ q, t = q + 1 := ⟨t - 1, by omega⟩
        have hq : ((q + 1 : Nat) : Int) - 1 = (q : Int) := by omega
        rw [hq]
        have d2 : wr.cell? ⟨bx, q, none⟩ = some (.int .u64 (nth x q)) := (ST.below.cell (p := ⟨bx, q, none⟩) hbz).trans (Hx.out.cell (by omega))
        have d4 := ST.blk.cell (k := q) (by omega)
        have d5 := ST.blk.free q
        have e1 : (q : Int) < (p : Int) + 1 := by omega
        have e2 : (q : Int) < (p : Int) + 1 := by omega
        have wq := nth_word wx q
        have wq0 := wq.1
        have wq1 := wq.2
        have RN := R.next wx (by omega) (by omega)
        have SN := ST.set (Nat.le_refl _) q (dQ_word u (nth x q) d u0 u1 wq hd')
        clear hL R ST hq
        go_wp2_with (go_at_call 39; refine (bDiv u (nth x q) d u0 wq0 wq1 u1 hd' _).mono ?_; rintro e w' ⟨rfl, nn, hw⟩; rw [hw]; clear hw)
        go_roundw
        case rel => exact ⟨q, _, _, by omega, rfl, by go_num, by rw [List.length_set]; exact HL.out, RN, SN.drewN nn⟩
        case measure => simp [intOf]
      · obtain rfl : t = 0 := by omega
        obtain ⟨hA, hB⟩ : pre L (p + 1) = pre x (p + 1) / d ∧ Norm (L.take (p + 1)) := by
          have hv := R.done
          refine ⟨hv, norm_take L (p + 1) (by rw [HL.out]; omega) (.inr fun hz => ?_)⟩
          rw [Nat.add_sub_cancel] at hz
          have hb := pre_bound ST.word p
          have e1 : pre L (p + 1) = pre L p := by rw [pre_succ', hz]; omega
          have : pw p ≤ pre x (p + 1) / d := by
            refine (Int.le_ediv_iff_mul_le hd).2 ?_
            have h1 : d * pw p ≤ nth x p * pw p := Int.mul_le_mul_of_nonneg_right hge hpp
            have h2 := (pre_bound wx p).1
            rw [pre_succ' x p, Int.mul_comm]
            omega
          omega
        have HA : Hid _ := hA
        have HBn : Hid _ := hB
        clear hA hB hL R ST
        go_wp2
        go_ret
        exact ⟨p + 1, L, rfl, HL.out, by omega, HA.out, HBn.out, HST.out⟩
end Go.Proofs.Qxb6620824a
