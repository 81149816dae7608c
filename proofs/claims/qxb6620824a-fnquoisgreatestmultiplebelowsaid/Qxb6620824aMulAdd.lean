/-
  nat.MulAdd: the walk.
-/
import Derived.Test.Qxb6620824aSmall2
import Derived.Test.Qxb6620824aMulMath
import Derived.Deep.RegionWith
import Derived.BigRegion
import Derived.Deep.CutRange
set_option linter.unusedVariables false
namespace Go.Proofs.Qxb6620824a
open Go.RowKit Plain

/-- a[:low]. -/
theorem slice_low (aa : Option Addr) (na ca low : Nat) (h : low ≤ ca) (hnil : aa = none → ca = 0) (w : World) :
    (Instr.slice 22 (.slice aa na ca) none (some (.int .i64 (low : Int))) none).run Try.prog w = .ok (.slice aa low ca) w := by
  cases aa with
  | none =>
    obtain rfl := hnil rfl
    obtain rfl : low = 0 := by omega
    simp [go_sem]
  | some ad =>
    have h1 : (low : Int) ≤ (ca : Int) := by omega
    simp [go_sem]
    intro h2
    omega

set_option maxRecDepth 100000 in
set_option maxHeartbeats 16000000 in
theorem mulAdd_walk {w : World} {bz : Nat} {aX aY aa a1 a2 : Option Addr} {n1 n2 c1 c2 : Nat} {nX nY na n low M : Nat} {X Y A A1 Z : List Int} (cX cY ca nz cz m1 : Nat)
    (SX : Sl bz w aX nX X) (SY : Sl bz w aY nY Y) (SA : Sl bz w aa na A) (hX : nX ≤ 10000) (hY : nY ≤ 10000) (hna : na ≤ 10000) (hle : nY ≤ nX) (h0 : 0 < nY)
    (hargs : a1 = aX ∧ n1 = nX ∧ c1 = cX ∧ a2 = aY ∧ n2 = nY ∧ c2 = cY ∨ a1 = aY ∧ n1 = nY ∧ c1 = cY ∧ a2 = aX ∧ n2 = nX ∧ c2 = cX ∧ nY < nX)
    (hlow : min (na : Int) (nX : Int) = (low : Int)) (hM : max (n : Int) (na : Int) = (M : Int)) (hA1 : A1 = A.take low)
    (HB : Step bz bz w w w.heap.size Z) (hz : Z.length = cz) (hn : nX + nY = n) (hn1 : n = m1 + 1) (hcz : M < cz) (hczm : cz ≤ 1000000) (hnz : nz ≤ cz) (NX : Norm X) (NY : Norm Y)
    (hsl : ∀ w, (Instr.slice 22 (.slice aa na ca) none (some (.int .i64 (low : Int))) none).run Try.prog w = .ok (.slice aa low ca) w) :
    Calls Try.prog 20 #[.slice (some ⟨bz, 0, none⟩) nz cz, .slice a1 n1 c1, .slice a2 n2 c2, .slice aa na ca] w fun e w' => ∃ m Z', e = .returned (.slice (some ⟨bz, 0, none⟩) m cz) ∧ Z'.length = cz ∧ m ≤ cz ∧ val (Z'.take m) = val X * val Y + val A ∧ Norm (Z'.take m) ∧ Step bz bz w w' w.heap.size Z' := by
  have hnI : (nX : Int) + (nY : Int) = (n : Int) := by omega
  have hd37 : ((nY : Int) == 0) = false := by simp; omega
  obtain ⟨bX, oX, rfl, hbX, hcX⟩ := SX.at (k := 0) (by omega)
  obtain ⟨bY, oY, rfl, hbY, hcY⟩ := SY.at (k := 0) (by omega)
  have HXl : Hid (X.length = nX) := SX.len
  have HYl : Hid (Y.length = nY) := SY.len
  have HAl : Hid (A.length = na) := SA.len
  have HZl : Hid (Z.length = cz) := hz
  have wX := SX.word; have wY := SY.word; have wA := SA.word
  have wy0 := nth_word wY 0
  have HcX : Hid _ := hcX
  have HcY : Hid _ := hcY
  have Hargs : Hid _ := hargs
  have HA1 : Hid (A1 = A.take low) := hA1
  have hM1 : n ≤ M := by omega
  have hM2 : na ≤ M := by omega
  have hM3 : M = n ∨ M = na := by omega
  have HM3 : Hid _ := hM3
  have hl1 : low ≤ na := by omega
  have hl2 : low ≤ nX := by omega
  have hl3 : low = na ∨ low = nX := by omega
  have HL3 : Hid _ := hl3
  have wA1 : Words A1 := by rw [hA1]; exact wA.take low
  have HA1l : Hid (A1.length = low) := by show _ = _; rw [hA1, List.length_take, SA.len]; omega
  have HA1n : Hid (∀ k, k < low → nth A1 k = nth A k) := by show ∀ k, _; intro k hk; rw [hA1]; exact nth_take A low k hk
  have HA1z : Hid (∀ k, low ≤ k → nth A1 k = 0) := by show ∀ k, _; intro k hk; exact nth_beyond A1 k (by rw [HA1l.out]; exact hk)
  have HN1 : Hid (n = m1 + 1) := hn1
  have HNN : Hid (nX + nY = n) := hn
  have g1 : nX < n := by omega
  have g2 : nX ≤ n := by omega
  have g3 : nY ≤ n := by omega
  have g4 : n ≤ 20000 := by omega
  have g5 : M ≤ 20000 := by omega
  have g6 : 0 < nX := by omega
  have hm1I : (n : Int) - 1 = (m1 : Int) := by omega
  clear hcX hcY SX SY hz hargs hA1 hM3 hl3 hn1
  go_enter Try.func20, Try.ntmps20
  go_upto_if 32 with fail
  go_cut [1, 2] from 28 to 34 (fun s1 s2 w' => s1 = .slice (some ⟨bX, oX, none⟩) nX cX ∧ s2 = .slice (some ⟨bY, oY, none⟩) nY cY ∧ w' = w)
  case first =>
    rcases Hargs.out with ⟨rfl, rfl, rfl, rfl, rfl, rfl⟩ | ⟨rfl, rfl, rfl, rfl, rfl, rfl, hlt⟩
    · go_wp2
      go_meet
      case rel => exact ⟨rfl, rfl, rfl⟩
    · go_wp2
      go_meet
      case rel => exact ⟨rfl, rfl, rfl⟩
  case rest =>
    obtain ⟨rfl, rfl, hwc⟩ := hcut
    subst hwc
    clear Hargs
    go_upto_region 12 with fail
    go_cut [0] from 60 to 65 (fun s0 w' => s0 = .slice (some ⟨bz, 0, none⟩) M cz ∧ w' = wc)
    case first =>
      rcases (show n < na ∨ n = na ∨ na < n by omega) with hlt | rfl | hlt
      · obtain rfl : M = na := by omega
        clear hM hlow
        go_wp2
        go_meet
        case rel => exact ⟨rfl, rfl⟩
      · obtain rfl : M = n := by omega
        clear hM hlow
        go_wp2
        go_meet
        case rel => exact ⟨rfl, rfl⟩
      · obtain rfl : M = n := by omega
        clear hM hlow
        go_wp2
        go_meet
        case rel => exact ⟨rfl, rfl⟩
    case rest =>
      obtain ⟨rfl, hwc⟩ := hcut
      subst hwc
      go_upto_region 13 with fail
      go_cut [12] from 66 to 70 (fun s0 w' => s0 = .int .i64 low ∧ w' = wc)
      case first =>
        rcases (show na < nX ∨ na = nX ∨ nX < na by omega) with hlt | rfl | hlt
        · obtain rfl : low = na := by omega
          clear hM hlow
          go_wp2
          go_meet
          case rel => exact ⟨rfl, rfl⟩
        · obtain rfl : low = na := by omega
          clear hM hlow
          go_wp2
          go_meet
          case rel => exact ⟨rfl, rfl⟩
        · obtain rfl : low = nX := by omega
          clear hM hlow
          go_wp2
          go_meet
          case rel => exact ⟨rfl, rfl⟩
      case rest =>
        obtain ⟨rfl, hwc⟩ := hcut
        obtain ⟨w, hw⟩ : ∃ w, w = wc := ⟨_, rfl⟩
        subst hw
        subst hwc
        clear hM hlow
        go_wp2
        clear hsl
        -- the first row, with a's words
        go_loopw [13, 75] (fun c i wr => ∃ (k : Nat) (u : Int) (L : List Int), k ≤ low ∧ c = .int .u64 u ∧ i = .int .i64 k ∧ L.length = cz ∧ Row1 X A1 L (nth Y 0) k u ∧ Step bz bz w wr w.heap.size L) (fun _ i _ => low - (intOf i).toNat)
        case atStart => exact ⟨0, 0, Z, by omega, rfl, rfl, HZl.out, Row1.start X A1 Z _, HB⟩
        case round =>
          obtain ⟨k, u, L, hk, rfl, rfl, hL, R, ST⟩ := hrel
          have HL : Hid (L.length = cz) := hL
          have HR : Hid _ := R
          have HST : Hid _ := ST
          have wu := R.car
          by_cases hlt : k < low
          · obtain ⟨ba, oA, rfl, hba, hcA⟩ := (SA.below ST.below).at (k := k) (by omega)
            have i1 : (k : Int) < (low : Int) := by omega
            have i2 : (k : Int) < (nX : Int) := by omega
            have i3 : (k : Int) < (M : Int) := by omega
            have i4 : (0 : Int) < (nY : Int) := by omega
            have d1 := hcA k (by omega)
            rw [← HA1n.out k hlt] at d1
            have d2 : wr.cell? ⟨bX, oX + k, none⟩ = some (.int .u64 (nth X k)) := (ST.below.cell (p := ⟨bX, oX + k, none⟩) hbX).trans (HcX.out k (by omega))
            have d3 : wr.cell? ⟨bY, oY, none⟩ = some (.int .u64 (nth Y 0)) := (ST.below.cell (p := ⟨bY, oY, none⟩) hbY).trans (HcY.out 0 (by omega))
            have d4 := ST.blk.cell (k := k) (by omega)
            have d5 := ST.blk.free k
            have wx := nth_word wX k
            have wa := nth_word wA1 k
            have RN := R.next (by omega) wX wA1 wy0
            have SN := ST.set (Nat.le_refl _) k (maL_word (nth X k) (nth Y 0) (nth A1 k) u)
            clear hL R ST hcA SA
            go_wp2
            go_region_with (go_at_call 37; refine (mulAddAdd (nth X k) (nth Y 0) (nth A1 k) u wx wy0 wa wu _).mono ?_; rintro e w' ⟨rfl, hw⟩; rw [hw]; clear hw)
            all_goals
              go_wp2
              go_roundw
              case rel => exact ⟨k + 1, _, _, by omega, rfl, by go_num, by rw [List.length_set]; exact HL.out, RN, SN.drew⟩
              case measure => simp [intOf]; omega
          · obtain rfl : k = low := by omega
            clear hL R ST
            go_wp2
            -- the first row, beyond a's words
            go_loopw [13, 16] (fun c i w2 => ∃ (j : Nat) (u : Int) (L : List Int), k ≤ j ∧ j ≤ nX ∧ c = .int .u64 u ∧ i = .int .i64 j ∧ L.length = cz ∧ Row1 X A1 L (nth Y 0) j u ∧ Step bz bz w w2 w.heap.size L) (fun _ i _ => nX - (intOf i).toNat)
            case atStart => exact ⟨k, u, L, by omega, by omega, rfl, rfl, HL.out, HR.out, HST.out⟩
            case round =>
              clear HL HR HST wu
              obtain ⟨j, u, L, hkj, hj, rfl, rfl, hL, R, ST⟩ := hrel
              have HL : Hid (L.length = cz) := hL
              have HR : Hid _ := R
              have HST : Hid _ := ST
              have wu := R.car
              by_cases hlt : j < nX
              · have i2 : (j : Int) < (nX : Int) := by omega
                have i3 : (j : Int) < (M : Int) := by omega
                have i4 : (0 : Int) < (nY : Int) := by omega
                have d2 : wr.cell? ⟨bX, oX + j, none⟩ = some (.int .u64 (nth X j)) := (ST.below.cell (p := ⟨bX, oX + j, none⟩) hbX).trans (HcX.out j (by omega))
                have d3 : wr.cell? ⟨bY, oY, none⟩ = some (.int .u64 (nth Y 0)) := (ST.below.cell (p := ⟨bY, oY, none⟩) hbY).trans (HcY.out 0 (by omega))
                have d4 := ST.blk.cell (k := j) (by omega)
                have d5 := ST.blk.free j
                have wx := nth_word wX j
                have RN := R.next (by omega) wX wA1 wy0
                rw [HA1z.out j hkj] at RN
                have SN := ST.set (Nat.le_refl _) j (maL_word (nth X j) (nth Y 0) 0 u)
                clear hL R ST
                go_wp2
                go_region_with (go_at_call 37; refine (mulAddAdd (nth X j) (nth Y 0) 0 u wx wy0 word_zero wu _).mono ?_; rintro e w' ⟨rfl, hw⟩; rw [hw]; clear hw)
                all_goals
                  go_wp2
                  go_roundw
                  case rel => exact ⟨j + 1, _, _, by omega, by omega, rfl, by go_num, by rw [List.length_set]; exact HL.out, RN, SN.drew⟩
                  case measure => simp [intOf]; omega
              · obtain rfl : j = nX := by omega
                have i3 : (j : Int) < (M : Int) := by omega
                have d4 := ST.blk.cell (k := j) (by omega)
                have d5 := ST.blk.free j
                have RI : Hid (RowsIn X Y A1 (L.set j u) 1 u) := by
                  show RowsIn X Y A1 (L.set j u) 1 u
                  have h := RowsIn.first (Y := Y) (by rw [HXl.out]; exact R) (by rw [HXl.out, HL.out]; omega) (by rw [HA1l.out, HXl.out]; omega)
                  rwa [HXl.out] at h
                have SN : Hid _ := ST.set (Nat.le_refl _) j wu
                clear hL R ST
                go_wp2
                clear d4 d5 HR HST
                -- the later rows
                go_loopw [13, 17] (fun c i w2 => ∃ (q : Nat) (u : Int) (L : List Int), 1 ≤ q ∧ q ≤ nY ∧ c = .int .u64 u ∧ i = .int .i64 q ∧ L.length = cz ∧ RowsIn X Y A1 L q u ∧ Step bz bz w w2 w.heap.size L) (fun _ i _ => nY - (intOf i).toNat)
                case atStart => exact ⟨1, u, _, by omega, by omega, rfl, rfl, by rw [List.length_set]; exact HL.out, RI.out, SN.out⟩
                case round =>
                  clear HL RI SN wu
                  obtain ⟨q, u, L, hq1, hq, rfl, rfl, hL, R, ST⟩ := hrel
                  obtain ⟨w4, hw4⟩ : ∃ w4, w4 = wr := ⟨_, rfl⟩
                  subst hw4
                  have HL : Hid (L.length = cz) := hL
                  have HR : Hid _ := R
                  have HST : Hid _ := ST
                  have wu := R.car
                  by_cases hlt : q < nY
                  · have i5 : (q : Int) + (j : Int) + 1 ≤ (cz : Int) := by omega
                    have i6 : ¬ cz = q := by omega
                    have wy := nth_word wY q
                    have i7 : (q : Int) < (nY : Int) := by omega
                    have i8 : q + j + 1 - q = j + 1 := by omega
                    obtain ⟨V, hV⟩ : ∃ V, V = val X * pre Y q + val A1 := ⟨_, rfl⟩
                    have HV : Hid (V = val X * pre Y q + val A1) := hV
                    have RS : RowJ X L (nth Y q) V q 0 0 := RowJ.start (by rw [hV]; exact R.sum)
                    clear hL R ST hV
                    go_wp2
                    simp only [i8]
                    clear i8
                    go_loopw [13, 140] (fun c i w2 => ∃ (i' : Nat) (v : Int) (L' : List Int), i' ≤ j ∧ c = .int .u64 v ∧ i = .int .i64 i' ∧ L'.length = cz ∧ RowJ X L' (nth Y q) V q i' v ∧ Step bz bz w w2 w.heap.size L') (fun _ i _ => j - (intOf i).toNat)
                    case atStart => exact ⟨0, 0, L, by omega, rfl, rfl, HL.out, RS, HST.out⟩
                    case round =>
                      clear HL HR HST wu RS
                      obtain ⟨i, v, L, hi, rfl, rfl, hL, R, ST⟩ := hrel
                      have HL : Hid (L.length = cz) := hL
                      have HR : Hid _ := R
                      have HST : Hid _ := ST
                      have wv := R.car
                      by_cases hij : i < j
                      · have e1 : (i : Int) < (j : Int) := by omega
                        have e2 : (i : Int) < (j : Int) + 1 := by omega
                        have d2 : wr.cell? ⟨bX, oX + i, none⟩ = some (.int .u64 (nth X i)) := (ST.below.cell (p := ⟨bX, oX + i, none⟩) hbX).trans (HcX.out i (by omega))
                        have d3 : wr.cell? ⟨bY, oY + q, none⟩ = some (.int .u64 (nth Y q)) := (ST.below.cell (p := ⟨bY, oY + q, none⟩) hbY).trans (HcY.out q (by omega))
                        have d4 := ST.blk.cell (k := q + i) (by omega)
                        have d5 := ST.blk.free (q + i)
                        have wx := nth_word wX i
                        have wz := nth_word ST.word (q + i)
                        have RN := R.next (by rw [HXl.out]; exact hij) (by rw [HXl.out, HL.out]; omega) wX ST.word wy
                        have SN := ST.set (Nat.le_refl _) (q + i) (maL_word (nth X i) (nth Y q) (nth L (q + i)) v)
                        clear hL R ST
                        go_wp2
                        go_region_with (go_at_call 37; refine (mulAddAdd (nth X i) (nth Y q) (nth L (q + i)) v wx wy wz wv _).mono ?_; rintro e w' ⟨rfl, hw⟩; rw [hw]; clear hw)
                        all_goals
                          go_wp2
                          go_roundw
                          case rel => exact ⟨i + 1, _, _, by omega, rfl, by go_num, by rw [List.length_set]; exact HL.out, RN, SN.drew⟩
                          case measure => simp [intOf]; omega
                      · obtain rfl : i = j := by omega
                        have e2 : (i : Int) < (i : Int) + 1 := by omega
                        have d4 := ST.blk.cell (k := q + i) (by omega)
                        have d5 := ST.blk.free (q + i)
                        have RI : RowsIn X Y A1 (L.set (q + i) v) (q + 1) v := by
                          have h := RowJ.done (Y := Y) (A := A1) (by rw [HXl.out, ← HV.out]; exact R) (by rw [HXl.out, HL.out]; omega)
                          rwa [HXl.out, Nat.add_comm i q] at h
                        have SN := ST.set (Nat.le_refl _) (q + i) wv
                        clear hL R ST
                        go_wp2
                        go_roundw
                        case rel => exact ⟨q + 1, v, _, by omega, by omega, rfl, by go_num, by rw [List.length_set]; exact HL.out, RI, SN⟩
                        case measure => simp [intOf]; omega
                  · obtain rfl : q = nY := by omega
                    clear hL R ST
                    by_cases hsm : na ≤ j
                    · have hk : k = na := by have := HL3.out; omega
                      have hAA : A1 = A := by rw [HA1.out, hk, List.take_of_length_le (by rw [HAl.out]; omega)]
                      have TN := top_norm (Y := Y) (by rw [HYl.out]; exact HR.out) wX wY wA1 HST.out.word NX NY (by rw [HYl.out]; omega) (by rw [HXl.out]; omega) (by rw [HXl.out, HYl.out, HL.out]; omega)
                      rw [HXl.out, HYl.out, HNN.out, hAA] at TN
                      by_cases hu : u = 0
                      · have V1 := (TN.1 hu).1
                        have N1 := (TN.1 hu).2
                        rw [HN1.out, Nat.add_sub_cancel] at V1 N1
                        have HV1 : Hid _ := V1
                        have HN2 : Hid _ := N1
                        subst hu
                        clear TN V1 N1 hAA hk
                        go_wp2
                        go_ret
                        exact ⟨m1, L, rfl, HL.out, by omega, HV1.out, HN2.out, HST.out⟩
                      · have HV1 : Hid _ := (TN.2 hu).1
                        have HN2 : Hid _ := (TN.2 hu).2
                        have hub : (u == 0) = false := by simpa using hu
                        clear TN hAA hk
                        go_wp2
                        go_ret
                        exact ⟨n, L, rfl, HL.out, by omega, HV1.out, HN2.out, HST.out⟩
                    · have hk : k = j := by have := HL3.out; omega
                      obtain ⟨P, hP⟩ : ∃ P, P = val X * val Y := ⟨_, rfl⟩
                      have HP : Hid (P = val X * val Y) := hP
                      have RS : RestIn A L P n j 0 := by
                        have h := RestIn.start (X := X) (Y := Y) (A := A) (Z := L) (c := u) (by rw [HXl.out, HYl.out, ← hk, ← HA1.out]; exact HR.out) (by rw [HYl.out]; omega)
                        rwa [HXl.out, HYl.out, HNN.out, ← hP] at h
                      have hd1 : decide (na ≤ j) = false := decide_eq_false hsm
                      have hd2 : decide ((na : Int) ≤ (j : Int)) = false := decide_eq_false (by omega)
                      have hjn : (j : Int) < (na : Int) := by omega
                      clear hk hP hsm
                      go_wp2
                      clear hd1 hd2
                      go_loopw [21, 22] (fun c i w2 => ∃ (i' : Nat) (v : Int) (L' : List Int), j ≤ i' ∧ i' ≤ na ∧ c = .int .u64 v ∧ i = .int .i64 i' ∧ L'.length = cz ∧ RestIn A L' P n i' v ∧ Step bz bz w w2 w.heap.size L') (fun _ i _ => na - (intOf i).toNat)
                      case atStart => exact ⟨j, 0, L, by omega, by omega, rfl, rfl, HL.out, RS, HST.out⟩
                      case round =>
                        clear HL HR HST wu RS
                        obtain ⟨i, v, L, hji, hi, rfl, rfl, hL, R, ST⟩ := hrel
                        have HL : Hid (L.length = cz) := hL
                        have HR : Hid _ := R
                        have HST : Hid _ := ST
                        have v0 := R.c0
                        have v1 := R.c1
                        by_cases hin : i < na
                        · obtain ⟨ba, oA, rfl, hba, hcA⟩ := (SA.below ST.below).at hin
                          have e1 : (i : Int) < (na : Int) := by omega
                          have e2 : (i : Int) < (M : Int) := by omega
                          have d1 := hcA i hin
                          have d4 := ST.blk.cell (k := i) (by omega)
                          have d5 := ST.blk.free i
                          have wa := (nth_word wA i).1
                          have wz := (nth_word ST.word i).1
                          by_cases hni : i < n
                          · have e3 : (i : Int) < (n : Int) := by omega
                            have RN := R.low hni (by omega) wA ST.word
                            have SN := ST.set (Nat.le_refl _) i (aS_wd (nth L i) (nth A i) v)
                            clear hL R ST hcA SA
                            go_wp2_with (go_at_call 34; refine (bAdd (nth L i) (nth A i) v wz wa v0 v1 _).mono ?_; rintro e w' ⟨rfl, hw⟩; rw [hw]; clear hw)
                            go_roundw
                            case rel => exact ⟨i + 1, _, _, by omega, by omega, rfl, by go_num, by rw [List.length_set]; exact HL.out, RN, SN⟩
                            case measure => simp [intOf]; omega
                          · have e3 : (n : Int) ≤ (i : Int) := by omega
                            have RN := R.high (by omega) (by omega) wA
                            have SN := ST.set (Nat.le_refl _) i (aS_wd 0 (nth A i) v)
                            clear hL R ST hcA SA
                            go_wp2_with (go_at_call 34; refine (bAdd 0 (nth A i) v (by decide) wa v0 v1 _).mono ?_; rintro e w' ⟨rfl, hw⟩; rw [hw]; clear hw)
                            go_roundw
                            case rel => exact ⟨i + 1, _, _, by omega, by omega, rfl, by go_num, by rw [List.length_set]; exact HL.out, RN, SN⟩
                            case measure => simp [intOf]; omega
                        · obtain rfl : i = na := by omega
                          have hMM : max n i = M := by have := HM3.out; omega
                          have US : Up L (P + val A) M i v := by
                            have h := Up.start R HAl.out
                            rwa [hMM] at h
                          obtain ⟨S, hS⟩ : ∃ S, S = P + val A := ⟨_, rfl⟩
                          have HS : Hid (S = val X * val Y + val A) := by show _ = _; rw [hS, HP.out]
                          rw [← hS] at US
                          obtain ⟨w6, hw6⟩ : ∃ w6, w6 = wr := ⟨_, rfl⟩
                          subst hw6
                          have HUS : Hid _ := US
                          clear hL R ST hMM hS US HR
                          go_upto_region 50 with fail
                          go_cut [25] from 211 to 214 (fun s0 w' => s0 = .int .i64 M ∧ w' = w6)
                          case first =>
                            rcases (show n < i ∨ n = i ∨ i < n by omega) with hlt | rfl | hlt
                            · obtain rfl : M = i := by have := HM3.out; omega
                              go_wp2
                              go_meet
                              case rel => exact ⟨rfl, rfl⟩
                            · obtain rfl : M = n := by have := HM3.out; omega
                              go_wp2
                              go_meet
                              case rel => exact ⟨rfl, rfl⟩
                            · obtain rfl : M = n := by have := HM3.out; omega
                              go_wp2
                              go_meet
                              case rel => exact ⟨rfl, rfl⟩
                          case rest =>
                            obtain ⟨rfl, hwc⟩ := hcut
                            subst hwc
                            go_wp2
                            go_loopw [21, 26] (fun c t w2 => ∃ (t' : Nat) (v : Int) (L' : List Int), i ≤ t' ∧ (t' ≤ n ∨ t' = i) ∧ c = .int .u64 v ∧ t = .int .i64 t' ∧ L'.length = cz ∧ Up L' S M t' v ∧ Step bz bz w w2 w.heap.size L') (fun _ t _ => n - (intOf t).toNat)
                            case atStart => exact ⟨i, v, L, by omega, .inr rfl, rfl, rfl, HL.out, HUS.out, HST.out⟩
                            case round =>
                              clear HL HST HUS v0 v1
                              obtain ⟨t, v, L, hit, htn, rfl, rfl, hL, R, ST⟩ := hrel
                              have HTN : Hid _ := htn
                              have HL : Hid (L.length = cz) := hL
                              have HR : Hid _ := R
                              have HST : Hid _ := ST
                              have v0 := R.c0
                              have v1 := R.c1
                              have hB := ST.blk
                              clear htn
                              by_cases htl : t < n
                              · have e3 : (t : Int) < (n : Int) := by omega
                                have e2 : (t : Int) < (M : Int) := by omega
                                by_cases hv : v = 0
                                · subst hv
                                  have hsum : Hid (pre L M = S) := by show _ = _; have := R.sum; omega
                                  clear hL R ST
                                  go_wp2_with (go_at_call 38; refine (trim M cz hB (by omega) (by rw [HL.out]; omega) (by omega)).mono ?_; rintro e w' ⟨m, rfl, hw, TR⟩; rw [hw]; clear hw)
                                  go_ret
                                  exact ⟨m, L, rfl, HL.out, by have := TR.le; omega, by rw [pre_take, TR.pre, hsum.out, HS.out], norm_take L m (by have := TR.le; have := HL.out; omega) TR.top, HST.out⟩
                                · have hvb : (v != 0) = true := by simpa using hv
                                  have d4 := ST.blk.cell (k := t) (by omega)
                                  have d5 := ST.blk.free t
                                  have wz := (nth_word ST.word t).1
                                  have RN := R.next (by omega) (by omega) ST.word
                                  have SN := ST.set (Nat.le_refl _) t (aS_wd (nth L t) 0 v)
                                  clear hL R ST hB
                                  go_wp2_with (go_at_call 34; refine (bAdd (nth L t) 0 v wz (by decide) v0 v1 _).mono ?_; rintro e w' ⟨rfl, hw⟩; rw [hw]; clear hw)
                                  go_roundw
                                  case rel => exact ⟨t + 1, _, _, by omega, .inl (by omega), rfl, by go_num, by rw [List.length_set]; exact HL.out, RN, SN⟩
                                  case measure => simp [intOf]; omega
                              · have hd : decide ((t : Int) < (n : Int)) = false := decide_eq_false (by omega)
                                have hd' : decide (t < n) = false := decide_eq_false (by omega)
                                have htM : t = M := by have := HTN.out; have := HM3.out; omega
                                by_cases hv : v = 0
                                · subst hv
                                  have hsum : Hid (pre L M = S) := by show _ = _; have := R.sum; omega
                                  clear hL R ST htM
                                  go_wp2_with (go_at_call 38; refine (trim M cz hB (by omega) (by rw [HL.out]; omega) (by omega)).mono ?_; rintro e w' ⟨m, rfl, hw, TR⟩; rw [hw]; clear hw)
                                  go_ret
                                  exact ⟨m, L, rfl, HL.out, by have := TR.le; omega, by rw [pre_take, TR.pre, hsum.out, HS.out], norm_take L m (by have := TR.le; have := HL.out; omega) TR.top, HST.out⟩
                                · have hvb : (v != 0) = true := by simpa using hv
                                  have d4 := ST.blk.cell (k := M) (by omega)
                                  have d5 := ST.blk.free M
                                  have e4 : (M : Int) < (M : Int) + 1 := by omega
                                  have e5 : (M : Int) + 1 ≤ (cz : Int) := by omega
                                  have OV : Hid _ := Up.over (htM ▸ R) hv (by omega)
                                  have SN : Hid _ := ST.set (Nat.le_refl _) M (v := v) ⟨v0, by omega⟩
                                  clear hL R ST htM hB
                                  go_wp2
                                  go_ret
                                  exact ⟨M + 1, _, rfl, by rw [List.length_set]; exact HL.out, by omega, by rw [OV.out.1, HS.out], OV.out.2, SN.out⟩
end Go.Proofs.Qxb6620824a
