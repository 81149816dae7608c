/-
  nat.MulAdd where one factor is empty: a is copied.
-/
import Derived.Test.Qxb6620824aSmall2
import Derived.Test.Qxb6620824aMulMath
set_option linter.unusedVariables false
namespace Go.Proofs.Qxb6620824a
open Go.RowKit Plain

set_option maxHeartbeats 4000000 in
set_option maxRecDepth 100000 in
theorem mulAdd_nil {w : World} {bz : Nat} {a1 a2 aa : Option Addr} {n1 n2 na : Nat} {A Z : List Int} (c1 c2 ca nz cz : Nat)
    (SA : Sl bz w aa na A) (hn1 : n1 ≤ 10000) (hn2 : n2 ≤ 10000) (hna : na ≤ 10000) (h0 : n1 = 0 ∨ n2 = 0)
    (HB : Step bz bz w w w.heap.size Z) (hz : Z.length = cz) (hcz : na < cz) (hczm : cz ≤ 1000000) (hnz : nz ≤ cz) :
    Calls Try.prog 20 #[.slice (some ⟨bz, 0, none⟩) nz cz, .slice a1 n1 c1, .slice a2 n2 c2, .slice aa na ca] w fun e w' => ∃ Z', e = .returned (.slice (some ⟨bz, 0, none⟩) na cz) ∧ Z'.length = cz ∧ Z'.take na = A ∧ Step bz bz w w' w.heap.size Z' := by
  have HZ : Hid (Z.length = cz) := hz
  have HAl : Hid (A.length = na) := SA.len
  have wA := SA.word
  clear hz
  by_cases hlt : n1 < n2
  · obtain rfl : n1 = 0 := by omega
    have hd : decide (0 < n2) = true := decide_eq_true hlt
    have hd2 : decide ((0 : Int) < (n2 : Int)) = true := decide_eq_true (by omega)
    clear h0
    go_enter Try.func20, Try.ntmps20
    go_wp2
    clear hd hd2
    go_loopw [44] (fun i wr => ∃ (k : Nat) (L : List Int), k ≤ na ∧ i = .int .i64 k ∧ L.length = cz ∧ (∀ t, t < k → nth L t = nth A t) ∧ Step bz bz w wr w.heap.size L) (fun i _ => na - (intOf i).toNat)
    case atStart => exact ⟨0, Z, by omega, rfl, HZ.out, fun t ht => by omega, HB⟩
    case round =>
      obtain ⟨k, L, hk, rfl, hL, hE, ST⟩ := hrel
      have HL : Hid (L.length = cz) := hL
      have HE : Hid _ := hE
      have HST : Hid _ := ST
      clear hE
      by_cases hka : k < na
      · obtain ⟨ba, oA, rfl, hba, hcA⟩ := (SA.below ST.below).at hka
        have e1 : (k : Int) < (na : Int) := by omega
        have d1 := hcA k hka
        have d4 := ST.blk.cell (k := k) (by omega)
        have d5 := ST.blk.free k
        have SN := ST.set (Nat.le_refl _) k (nth_word wA k)
        clear hL ST hcA SA
        go_wp2
        go_roundw
        case rel => exact ⟨k + 1, _, by omega, by go_num, by rw [List.length_set]; exact HL.out, fun t ht => by
          by_cases htk : t = k
          · rw [htk]; exact nth_set_same _ _ _ (by rw [HL.out]; omega)
          · rw [nth_set_other _ _ _ _ htk]; exact HE.out t (by omega), SN⟩
        case measure => simp [intOf]; omega
      · obtain rfl : k = na := by omega
        have HT : Hid (L.take k = A) := by
          show _ = _
          refine eq_step _ _ k (by rw [List.length_take, HL.out]; omega) HAl.out fun t ht => ?_
          rw [nth_take L k t ht]; exact HE.out t ht
        clear hL ST
        go_wp2
        go_ret
        exact ⟨L, rfl, HL.out, HT.out, HST.out⟩
  · obtain rfl : n2 = 0 := by omega
    have hd : decide (n1 < 0) = false := by simp
    have hd2 : decide ((n1 : Int) < 0) = false := decide_eq_false (by omega)
    clear h0
    go_enter Try.func20, Try.ntmps20
    go_wp2
    clear hd hd2
    go_loopw [44] (fun i wr => ∃ (k : Nat) (L : List Int), k ≤ na ∧ i = .int .i64 k ∧ L.length = cz ∧ (∀ t, t < k → nth L t = nth A t) ∧ Step bz bz w wr w.heap.size L) (fun i _ => na - (intOf i).toNat)
    case atStart => exact ⟨0, Z, by omega, rfl, HZ.out, fun t ht => by omega, HB⟩
    case round =>
      obtain ⟨k, L, hk, rfl, hL, hE, ST⟩ := hrel
      have HL : Hid (L.length = cz) := hL
      have HE : Hid _ := hE
      have HST : Hid _ := ST
      clear hE
      by_cases hka : k < na
      · obtain ⟨ba, oA, rfl, hba, hcA⟩ := (SA.below ST.below).at hka
        have e1 : (k : Int) < (na : Int) := by omega
        have d1 := hcA k hka
        have d4 := ST.blk.cell (k := k) (by omega)
        have d5 := ST.blk.free k
        have SN := ST.set (Nat.le_refl _) k (nth_word wA k)
        clear hL ST hcA SA
        go_wp2
        go_roundw
        case rel => exact ⟨k + 1, _, by omega, by go_num, by rw [List.length_set]; exact HL.out, fun t ht => by
          by_cases htk : t = k
          · rw [htk]; exact nth_set_same _ _ _ (by rw [HL.out]; omega)
          · rw [nth_set_other _ _ _ _ htk]; exact HE.out t (by omega), SN⟩
        case measure => simp [intOf]; omega
      · obtain rfl : k = na := by omega
        have HT : Hid (L.take k = A) := by
          show _ = _
          refine eq_step _ _ k (by rw [List.length_take, HL.out]; omega) HAl.out fun t ht => ?_
          rw [nth_take L k t ht]; exact HE.out t ht
        clear hL ST
        go_wp2
        go_ret
        exact ⟨L, rfl, HL.out, HT.out, HST.out⟩
end Go.Proofs.Qxb6620824a
