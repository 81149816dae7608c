/-
  THE BIT BY BIT DIVISION's CALLEES: shiftInBit, atLeast, subtractFrom.
-/
import Derived.Test.Qxb6620824aBitMath
import Derived.Test.Qxb6620824aSmall2
set_option linter.unusedVariables false
namespace Go.Proofs.Qxb6620824a
open Go.RowKit Plain

theorem nth_past (l : List Int) (k : Nat) (h : l.length ≤ k) : nth l k = 0 := by
  unfold nth
  simp [List.getD, List.getElem?_eq_none h]

set_option maxHeartbeats 1000000 in
/-- shiftInBit: r := 2r + bit. -/
theorem shiftInBit {w : World} {b n : Nat} {R : List Int} (cap : Nat) (bit : Int) (h0 : 0 ≤ bit) (h1 : bit ≤ 1) (hn : n ≤ 1000000) (hR : R.length = n) (HB : Step b b w w w.heap.size R) (hlt : 2 * val R + bit < pw n) :
    Calls Try.prog 24 #[.slice (some ⟨b, 0, none⟩) n cap, .int .u64 bit] w fun e w' => ∃ R', e = .returned (.tuple #[]) ∧ R'.length = n ∧ val R' = 2 * val R + bit ∧ Step b b w w' w.heap.size R' := by
  have HR : Hid (R.length = n) := hR
  have HLT : Hid _ := hlt
  have WR := HB.word
  have HS := ShI.start R bit h0 h1
  clear hR hlt
  go_enter Try.func24, Try.ntmps24
  go_wp2
  go_loopw [4, 5] (fun c i wr => ∃ (k : Nat) (u : Int) (L : List Int), k ≤ n ∧ c = .int .u64 u ∧ i = .int .i64 k ∧ L.length = n ∧ ShI R L bit k u ∧ Step b b w wr w.heap.size L) (fun _ i _ => n - (intOf i).toNat)
  case atStart => exact ⟨0, _, R, by omega, rfl, rfl, HR.out, HS, HB⟩
  case round =>
    obtain ⟨k, u, L, hk, rfl, rfl, hL, I, ST⟩ := hrel
    have HL : Hid (L.length = n) := hL
    by_cases hkn : k < n
    · have d1 := ST.blk.cell (k := k) (by omega)
      rw [I.rest k (Nat.le_refl _)] at d1
      have d2 := ST.blk.free k
      have wk := nth_word WR k
      have e1 := dbl_bits (nth R k) u wk I.c0 I.c1
      have e2 : nth R k / 9223372036854775808 = dblC (nth R k) := rfl
      have IN := I.next (by omega) wk
      have SN := ST.set (Nat.le_refl _) k (dbl_word (nth R k) u)
      have i1 : (k : Int) < (n : Int) := by omega
      obtain ⟨wk0, wk1⟩ := wk
      clear hL I ST
      go_wp2
      go_roundw
      case rel => exact ⟨k + 1, _, _, by omega, rfl, by go_num, by rw [List.length_set]; exact HL.out, IN, SN⟩
      case measure => simp [intOf]; omega
    · obtain rfl : k = n := by omega
      have V : Hid _ := I.done HR.out HL.out ST.word HLT.out
      have HST : Hid _ := ST
      clear hL I ST
      go_wp2
      go_end0
      exact ⟨L, rfl, HL.out, V.out, HST.out⟩

set_option maxHeartbeats 1000000 in
/-- atLeast: r >= y, where r has one word more. -/
theorem atLeast {base : Nat} {w : World} {b n : Nat} {ay : Option Addr} {R y : List Int} (cap cy : Nat) (hn : n ≤ 1000000) (hR : R.length = n + 1) (hB : Blk w b R) (WR : Words R) (Sy : Sl base w ay n y) :
    Calls Try.prog 25 #[.slice (some ⟨b, 0, none⟩) (n + 1) cap, .slice ay n cy] w fun e w' => e = .returned (.bool (decide (val y ≤ val R))) ∧ ∃ q, w' = w.drewN q := by
  have HR : Hid (R.length = n + 1) := hR
  have HYl : Hid (y.length = n) := Sy.len
  have HB : Hid (Blk w b R) := hB
  have d1 := hB.cell (k := n) (by omega)
  have i0 : (n : Int) < (n : Int) + 1 := by omega
  have wy := Sy.word
  clear hR hB
  by_cases ht : nth R n = 0
  · rw [ht] at d1
    have HV : Hid (val R = pre R n) := low_val HR.out ht
    have HVy : Hid (val y = pre y n) := by show _ = _; rw [← HYl.out]; exact (pre_all y).symm
    clear ht
    go_enter Try.func25, Try.ntmps25
    go_wp2
    go_loopw [5] (fun i wr => ∃ (t : Nat) (q : Nat), t ≤ n ∧ i = .int .i64 ((t : Int) - 1) ∧ (∀ j, t ≤ j → j < n → nth R j = nth y j) ∧ wr = w.drewN q) (fun i _ => (intOf i + 1).toNat)
    case atStart => exact ⟨n, 0, by omega, by go_num, fun j h1 h2 => by omega, rfl⟩
    case round =>
      obtain ⟨t, q, ht, rfl, he, rfl⟩ := hrel
      have HE : Hid _ := he
      clear he
      by_cases h0 : 0 < t
      · obtain ⟨s, rfl⟩ : ∃ s, t = s + 1 := ⟨t - 1, by omega⟩
        have hs : ((s + 1 : Nat) : Int) - 1 = (s : Int) := by omega
        rw [hs]
        obtain ⟨bb, ob, rfl, hbb, hcb⟩ := Sy.at (k := s) (by omega)
        have c1 := HB.out.cell (k := s) (by have := HR.out; omega)
        have c2 := hcb s (by omega)
        have i1 : (s : Int) < (n : Int) := by omega
        have i2 : (s : Int) < (n : Int) + 1 := by omega
        rcases Int.lt_trichotomy (nth R s) (nth y s) with hd | hd | hd
        · have HC : Hid (decide (val y ≤ val R) = false) := by
            refine decide_eq_false ?_
            have := top_lt' WR wy n s (by omega) HE.out hd
            rw [HV.out, HVy.out]; omega
          have hne : (nth R s != nth y s) = true := by simp; omega
          have hle : nth R s ≤ nth y s := by omega
          clear hcb Sy hs
          go_wp2
          go_quiet (fail)
          go_wp2
          go_quiet (fail)
          go_wp2
          go_ret
          refine ⟨ret_bool_eq ((decide_eq_false (by omega)).trans HC.out.symm), ?_⟩
          rw [World.drewN_drewN, World.drewN_drewN]
          exact ⟨_, rfl⟩
        · have HD : Hid (nth R s = nth y s) := hd
          rw [hd] at c1
          clear hcb Sy hs hd
          go_wp2
          go_quiet (fail)
          go_wp2
          go_roundw
          case rel => exact ⟨s, _, by omega, by go_num, fun j h1 h2 => by
            by_cases hj : j = s
            · rw [hj]; exact HD.out
            · exact HE.out j (by omega) h2, rfl⟩
          case measure => simp [intOf]
        · have HC : Hid (decide (val y ≤ val R) = true) := by
            refine decide_eq_true ?_
            have := top_lt' wy WR n s (by omega) (fun j h1 h2 => (HE.out j h1 h2).symm) hd
            rw [HV.out, HVy.out]; omega
          have hne : (nth R s != nth y s) = true := by simp; omega
          clear hcb Sy hs
          go_wp2
          go_quiet (fail)
          go_wp2
          go_quiet (fail)
          go_wp2
          go_ret
          refine ⟨ret_bool_eq HC.out.symm, ?_⟩
          rw [World.drewN_drewN, World.drewN_drewN]
          exact ⟨_, rfl⟩
      · obtain rfl : t = 0 := by omega
        have HC : Hid (decide (val y ≤ val R) = true) := by
          refine decide_eq_true ?_
          have := same_pre n (fun j hj => HE.out j (by omega) hj)
          rw [HV.out, HVy.out]; omega
        go_wp2
        go_ret
        exact ⟨ret_bool_eq HC.out.symm, _, rfl⟩
  · have HC : Hid (decide (val y ≤ val R) = true) := decide_eq_true (ge_top WR wy HR.out HYl.out ht)
    have hne : (nth R n != 0) = true := by simp; omega
    go_enter Try.func25, Try.ntmps25
    go_wp2
    go_ret
    exact ⟨ret_bool_eq HC.out.symm, 0, rfl⟩

set_option maxHeartbeats 1000000 in
/-- subtractFrom: r := r - y. -/
theorem subtractFrom {w : World} {b n m : Nat} {ay : Option Addr} {R y : List Int} (cap cy : Nat) (hn : n ≤ 1000000) (hmn : m ≤ n) (hR : R.length = n) (HB : Step b b w w w.heap.size R) (Sy : Sl b w ay m y) (hle : val y ≤ val R) :
    Calls Try.prog 26 #[.slice (some ⟨b, 0, none⟩) n cap, .slice ay m cy] w fun e w' => ∃ R', e = .returned (.tuple #[]) ∧ R'.length = n ∧ val R' = val R - val y ∧ Step b b w w' w.heap.size R' := by
  have HR : Hid (R.length = n) := hR
  have HYl : Hid (y.length = m) := Sy.len
  have HLE : Hid _ := hle
  have WR := HB.word
  have wy := Sy.word
  have HS := SbI.start R y
  clear hR hle
  go_enter Try.func26, Try.ntmps26
  go_wp2
  go_loopw [4, 5] (fun c i wr => ∃ (k : Nat) (u : Int) (L : List Int), k ≤ n ∧ c = .int .u64 u ∧ i = .int .i64 k ∧ L.length = n ∧ SbI R y L k u ∧ Step b b w wr w.heap.size L) (fun _ i _ => n - (intOf i).toNat)
  case atStart => exact ⟨0, _, R, by omega, rfl, rfl, HR.out, HS, HB⟩
  case round =>
    obtain ⟨k, u, L, hk, rfl, rfl, hL, I, ST⟩ := hrel
    have HL : Hid (L.length = n) := hL
    by_cases hkn : k < n
    · have d1 := ST.blk.cell (k := k) (by omega)
      rw [I.rest k (Nat.le_refl _)] at d1
      have d2 := ST.blk.free k
      have wk := nth_word WR k
      have vk := nth_word wy k
      have i1 : (k : Int) < (n : Int) := by omega
      have u0 := I.c0
      have u1 := I.c1
      obtain ⟨wk0, wk1⟩ := wk
      obtain ⟨vk0, vk1⟩ := vk
      obtain ⟨r, hr⟩ : ∃ r, nth R k = r := ⟨_, rfl⟩
      obtain ⟨v, hv⟩ : ∃ v, nth y k = v := ⟨_, rfl⟩
      rw [hr] at d1 wk0 wk1
      rw [hv] at vk0 vk1
      have HI : Hid _ := I
      have HST : Hid _ := ST
      have Hr : Hid _ := hr
      have Hv : Hid _ := hv
      by_cases hm : k < m
      · obtain ⟨bb, ob, rfl, hbb, hcb⟩ := (Sy.below ST.below).at hm
        have c2 := hcb k hm
        rw [hv] at c2
        have i2 : (k : Int) < (m : Int) := by omega
        clear hL I ST hcb Sy hr hv
        by_cases hA : r < v
        · have e1 : IntKind.u64.wrap (r - v) = r - v + 18446744073709551616 := by rw [IntKind.wrap_u64]; omega
          have e2 : IntKind.u64.wrap (r - v + 18446744073709551616 - u) = r - v + 18446744073709551616 - u := by rw [IntKind.wrap_u64]; omega
          have e3 : ¬ (r - v + 18446744073709551616 < u) := by omega
          go_wp2
          go_roundw
          case rel => exact ⟨k + 1, _, _, by omega, rfl, by go_num, by rw [List.length_set]; exact HL.out, HI.out.next (v := r - v + 18446744073709551616 - u) (b := 1) (by have := HL.out; omega) (by decide) (by decide) (by rw [Hr.out, Hv.out]; omega), HST.out.set (Nat.le_refl _) k ⟨by omega, by omega⟩⟩
          case measure => simp [intOf]; omega
        · by_cases hC : v + u ≤ r
          · have e1 : IntKind.u64.wrap (r - v) = r - v := by rw [IntKind.wrap_u64]; omega
            have e2 : IntKind.u64.wrap (r - v - u) = r - v - u := by rw [IntKind.wrap_u64]; omega
            have e3 : ¬ (r - v < u) := by omega
            go_wp2
            go_roundw
            case rel => exact ⟨k + 1, _, _, by omega, rfl, by go_num, by rw [List.length_set]; exact HL.out, HI.out.next (v := r - v - u) (b := 0) (by have := HL.out; omega) (by decide) (by decide) (by rw [Hr.out, Hv.out]; omega), HST.out.set (Nat.le_refl _) k ⟨by omega, by omega⟩⟩
            case measure => simp [intOf]; omega
          · obtain rfl : u = 1 := by omega
            obtain rfl : r = v := by omega
            have e1 : IntKind.u64.wrap (r - r) = 0 := by rw [IntKind.wrap_u64]; omega
            have e2 : IntKind.u64.wrap (-1) = 18446744073709551615 := by decide
            go_wp2
            go_roundw
            case rel => exact ⟨k + 1, _, _, by omega, rfl, by go_num, by rw [List.length_set]; exact HL.out, HI.out.next (v := 18446744073709551615) (b := 1) (by have := HL.out; omega) (by decide) (by decide) (by rw [Hr.out, Hv.out]; omega), HST.out.set (Nat.le_refl _) k ⟨by omega, by omega⟩⟩
            case measure => simp [intOf]; omega
      · have i2 : (m : Int) ≤ (k : Int) := by omega
        have hz : v = 0 := by
          rw [← hv]
          exact nth_past y k (by rw [HYl.out]; omega)
        subst hz
        clear hL I ST Sy hr hv
        by_cases hC : u ≤ r
        · have e1 : IntKind.u64.wrap r = r := by rw [IntKind.wrap_u64]; omega
          have e2 : IntKind.u64.wrap (r - u) = r - u := by rw [IntKind.wrap_u64]; omega
          have e3 : ¬ (r < u) := by omega
          go_wp2
          go_roundw
          case rel => exact ⟨k + 1, _, _, by omega, rfl, by go_num, by rw [List.length_set]; exact HL.out, HI.out.next (v := r - u) (b := 0) (by have := HL.out; omega) (by decide) (by decide) (by rw [Hr.out, Hv.out]; omega), HST.out.set (Nat.le_refl _) k ⟨by omega, by omega⟩⟩
          case measure => simp [intOf]; omega
        · obtain rfl : u = 1 := by omega
          obtain rfl : r = 0 := by omega
          have e2 : IntKind.u64.wrap (-1) = 18446744073709551615 := by decide
          go_wp2
          go_roundw
          case rel => exact ⟨k + 1, _, _, by omega, rfl, by go_num, by rw [List.length_set]; exact HL.out, HI.out.next (v := 18446744073709551615) (b := 1) (by have := HL.out; omega) (by decide) (by decide) (by rw [Hr.out, Hv.out]; omega), HST.out.set (Nat.le_refl _) k ⟨by omega, by omega⟩⟩
          case measure => simp [intOf]; omega
    · obtain rfl : k = n := by omega
      have V : Hid _ := I.done HR.out (by rw [HYl.out]; exact hmn) HL.out ST.word HLE.out
      have HST : Hid _ := ST
      clear hL I ST
      go_wp2
      go_end0
      exact ⟨L, rfl, HL.out, V.out, HST.out⟩

end Go.Proofs.Qxb6620824a
