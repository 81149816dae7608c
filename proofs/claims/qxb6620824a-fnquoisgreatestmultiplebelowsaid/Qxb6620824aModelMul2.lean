/-
  modelMulAdd: the walk.
-/
import Derived.Test.Qxb6620824aModelMul
set_option linter.unusedVariables false
namespace Go.Proofs.Qxb6620824a
open Go.RowKit Plain

/-- What the inner loop's step does to the column. -/
theorem col_take (x y : List Int) (k i j : Nat) (T1 : Int) (h : k = i + j) : T1 + col x y k i + nth x i * nth y j = T1 + col x y k (i + 1) := by
  subst h
  rw [col, if_pos (by omega), Nat.add_sub_cancel_left]; omega
theorem col_skip (x y : List Int) (k i : Nat) (h : i ≤ k → y.length ≤ k - i) : col x y k i = col x y k (i + 1) := by
  rw [col]
  split
  · rw [nth_beyond y (k - i) (h (by assumption))]; omega
  · omega
theorem acc_small {x y : List Int} (hx : Words x) (hy : Words y) (k i : Nat) (T1 : Int) (hi : i ≤ 1000) (h0 : 0 ≤ T1) (h1 : T1 ≤ 340282366920938463463374607431768211456 * 2) : 0 ≤ T1 + col x y k i ∧ T1 + col x y k i < 340282366920938463463374607431768211456000000 := by
  have h := col_bound hx hy k i
  have : (i : Int) * 340282366920938463463374607431768211456 ≤ 1000 * 340282366920938463463374607431768211456 := Int.mul_le_mul_of_nonneg_right (by omega) (by decide)
  omega
theorem acc_next (T : Int) (h0 : 0 ≤ T) (h : T < 340282366920938463463374607431768211456000000) : 0 ≤ T / 18446744073709551616 ∧ T / 18446744073709551616 ≤ 340282366920938463463374607431768211456 := by omega

/-- The column loop's keeping: k columns are done. -/
structure Cols (x y a L : List Int) (nx k : Nat) (T : Int) : Prop where
  sum : pre L k + T * pw k = csum x y nx k + pre a k
  t0 : 0 ≤ T
  t1 : T ≤ 340282366920938463463374607431768211456

theorem Cols.start (x y a : List Int) (nx n : Nat) : Cols x y a (List.replicate n 0) nx 0 0 := ⟨by simp [pre_zero, csum], by decide, by decide⟩
theorem Cols.next {x y a L : List Int} {nx k : Nat} {T T' : Int} (h : Cols x y a L nx k T) (hk : k < L.length) (hT : T' = T + nth a k + col x y k nx) (h0 : 0 ≤ T') (h1 : T' < 340282366920938463463374607431768211456000000) : Cols x y a (L.set k (Plain.t0 T')) nx (k + 1) (T' / 18446744073709551616) := by
  have e := col_step L k T T' _ (nth a k + col x y k nx) hk h.sum (by omega)
  have b := acc_next T' h0 h1
  refine ⟨?_, b.1, b.2⟩
  rw [e, csum, pre_succ' a k, Int.add_mul]
  omega
theorem Cols.done {x y a L : List Int} {nx n : Nat} {T : Int} (h : Cols x y a L nx (n + 1) T) (hx : Words x) (hy : Words y) (ha : Words a) (hL : Words L) (hnx : x.length = nx) (h1 : nx + y.length ≤ n) (h2 : a.length ≤ n) : pre L (n + 1) = val x * val y + val a := by
  have e := h.sum
  have b := total_bound hx hy ha n (by omega) h2
  rw [csum_all x y (n + 1) nx (by omega), pre_more a (n + 1) (by omega), ← hnx, pre_all] at e
  exact col_end hL (n + 1) T _ h.t0 e b.2

set_option maxRecDepth 100000 in
set_option maxHeartbeats 4000000 in
theorem modelMulAdd_a {w : World} {ax ay aa : Option Addr} {nx ny na : Nat} {x y a : List Int} (cx cy ca n : Nat)
    (Sx : Sl w.heap.size w ax nx x) (Sy : Sl w.heap.size w ay ny y) (Sa : Sl w.heap.size w aa na a) (hx : nx ≤ 1000) (hy : ny ≤ 1000) (ha : na ≤ 1000) (hn : n = na) (hle : nx + ny < na) :
    Calls Try.prog 19 #[.slice ax nx cx, .slice ay ny cy, .slice aa na ca] w fun e w' => ∃ m L, e = .returned (.slice (some ⟨w.heap.size, 0, none⟩) m (n + 1)) ∧ m ≤ L.length ∧ val (L.take m) = val x * val y + val a ∧ Norm (L.take m) ∧ Step w.heap.size w.heap.size w w' (w.heap.size + 1) L := by
  obtain rfl : n = na := hn
  have hd25 : decide ((nx : Int) + (ny : Int) < (n : Int)) = true := decide_eq_true (by omega)
  have hmk := make_run (n + 1) (by omega)
  rw [show ((n + 1 : Nat) : Int) = (n : Int) + 1 by omega] at hmk
  have M := Step.made w (n + 1)
  go_enter Try.func19, Try.ntmps19
  go_wp2
  clear hmk
  go_loopw [9, 10, 11, 12] (fun c0 c1 c2 i wr => ∃ (k : Nat) (T : Int) (L : List Int), k ≤ n + 1 ∧ c0 = .int .u64 (t0 T) ∧ c1 = .int .u64 (t1 T) ∧ c2 = .int .u64 (t2 T) ∧ i = .int .i64 k ∧ L.length = n + 1 ∧ Cols x y a L nx k T ∧ Step w.heap.size w.heap.size w wr (w.heap.size + 1) L) (fun _ _ _ i _ => n + 1 - (intOf i).toNat)
  case atStart => exact ⟨0, 0, _, by omega, rfl, rfl, rfl, rfl, List.length_replicate, Cols.start x y a nx (n + 1), M⟩
  case round =>
    clear M
    obtain ⟨k, T, L, hk, rfl, rfl, rfl, rfl, hL, C, ST⟩ := hrel
    obtain ⟨w1, hw1⟩ : ∃ w1, w1 = wr := ⟨_, rfl⟩
    subst hw1
    have HL : Hid (L.length = n + 1) := hL
    have T0 := C.t0; have T1 := C.t1
    by_cases hlt : k ≤ n
    · -- a's word of this column
      have key : ∃ T1 : Int, T1 = T + nth a k ∧ 0 ≤ T1 ∧ T1 ≤ 340282366920938463463374607431768211456 * 2 := ⟨_, rfl, by have := (nth_word Sa.word k).1; omega, by have := (nth_word Sa.word k).2; omega⟩
      obtain ⟨A, hA, A0, A1⟩ := key
      have HA : Hid (A = T + nth a k) := hA
      have HC : Hid (Cols x y a L nx k T) := C
      have HST : Hid (Step w.heap.size w.heap.size w w1 (w.heap.size + 1) L) := ST
      have Sa' := Sa.below ST.below
      have HYL : Hid (y.length = ny) := Sy.len
      have HAL : Hid (a.length = n) := Sa.len
      have xw := Sx.word; have yw := Sy.word
      by_cases hka : k < n
      · obtain ⟨ba, offa, rfl, hba, hca⟩ := Sa'.at hka
        have c1 := hca k hka
        have i1 : (k : Int) < (n : Int) := by omega
        have waw := nth_word Sa.word k
        have TB : T < 340282366920938463463374607431768211456000000 := by omega
        have hA' : T + nth a k = A := hA.symm
        clear hca hA hL C ST Sa Sa'
        go_wp2_with (go_at_call 36; refine (addAcc0 T (nth a k) T0 TB waw _).mono ?_; rintro e w' ⟨rfl, hw⟩; rw [hw]; clear hw)
        clear hA' c1 i1 waw TB
        go_loopw [9, 10, 11, 13] (fun c0 c1 c2 i wi => ∃ (i' : Nat) (q : Nat) (U : Int), i' ≤ nx ∧ U = A + col x y k i' ∧ c0 = .int .u64 (t0 U) ∧ c1 = .int .u64 (t1 U) ∧ c2 = .int .u64 (t2 U) ∧ i = .int .i64 i' ∧ wi = w1.drewN q) (fun _ _ _ i _ => nx - (intOf i).toNat)
        case atStart => exact ⟨0, 0, A, by omega, by simp [col], rfl, rfl, rfl, rfl, rfl⟩
        case round =>
          obtain ⟨i, q, U, hi, hU, rfl, rfl, rfl, rfl, hwi⟩ := hrel
          have HWI : Hid (wr = w1.drewN q) := hwi
          have STi : Hid (Step w.heap.size w.heap.size w wr (w.heap.size + 1) L) := by show Step _ _ _ _ _ _; rw [hwi]; exact HST.out.drewN q
          have Sxi := Sx.below STi.out.below
          have Syi := Sy.below STi.out.below
          have e2 := STi.out.blk.cell (k := k) (by rw [HL.out]; omega)
          have e3 := STi.out.blk.free k
          clear hwi Sx Sy
          have HU : Hid (U = A + col x y k i) := hU
          have UB := acc_small xw yw k i A (by omega) A0 A1
          rw [← hU] at UB
          obtain ⟨U0, U1⟩ := UB
          clear hU
          by_cases hix : i < nx
          · by_cases hik : i ≤ k
            · obtain ⟨j, hj⟩ : ∃ j : Nat, k = i + j := ⟨k - i, by omega⟩
              have HJ : Hid (k = i + j) := hj
              have hji : (k : Int) - (i : Int) = (j : Int) := by omega
              clear hj
              by_cases hjy : j < ny
              · obtain ⟨bx, offx, rfl, hbx, hcx⟩ := Sxi.at hix
                obtain ⟨by', offy, rfl, hby, hcy⟩ := Syi.at hjy
                have d1 := hcx i hix
                have d2 := hcy j hjy
                have i2 : (i : Int) < (nx : Int) := by omega
                have i3 : (j : Int) < (ny : Int) := by omega
                have wx := nth_word xw i
                have wy := nth_word yw j
                have wx0 := wx.1; have wx1 := wx.2; have wy0 := wy.1; have wy1 := wy.2
                clear hcx hcy Sxi Syi e2 e3
                go_wp2
                go_quiet ((go_at_call 16; exact Calls.quiet_of_same (mulWide (nth x i) (nth y j) wx0 wx1 wy0 wy1 _)))
                go_wp2_with (go_at_call 36; refine (addAccM U (nth x i) (nth y j) U0 U1 wx wy _).mono ?_; rintro e w' ⟨rfl, hw⟩; rw [hw]; clear hw)
                go_roundw
                case rel => exact ⟨i + 1, _, _, by omega, by rw [HU.out]; exact col_take x y k i j A HJ.out, rfl, rfl, rfl, by go_num, by rw [HWI.out, World.drewN_drewN]⟩
                case measure => simp [intOf]; omega
              · have i3 : (ny : Int) ≤ (j : Int) := by omega
                clear Sxi Syi e2 e3
                go_wp2
                go_roundw
                case rel => exact ⟨i + 1, _, U, by omega, by rw [HU.out, col_skip x y k i (fun _ => by rw [HYL.out, HJ.out]; omega)], rfl, rfl, rfl, by go_num, HWI.out⟩
                case measure => simp [intOf]; omega
            · have i3 : (k : Int) - (i : Int) < 0 := by omega
              clear Sxi Syi e2 e3
              go_wp2
              go_roundw
              case rel => exact ⟨i + 1, _, U, by omega, by rw [HU.out, col_skip x y k i (fun h => absurd h hik)], rfl, rfl, rfl, by go_num, HWI.out⟩
              case measure => simp [intOf]; omega
          · obtain rfl : i = nx := by omega
            have R := STi.out.set (Nat.le_refl _) k (t0_word U)
            have D := t_down U U0 U1
            have HD : Hid _ := D
            clear D Sxi Syi
            go_wp2
            go_roundw
            case rel => exact ⟨k + 1, U / 18446744073709551616, _, by omega, by rw [HD.out.1], by rw [HD.out.2.1], by rw [HD.out.2.2], by go_num, by rw [List.length_set]; exact HL.out, HC.out.next (by rw [HL.out]; omega) (by have h1 := HU.out; have h2 := HA.out; omega) U0 U1, R⟩
            case measure => simp [intOf]; omega
      · have hA' : A = T := by rw [HA.out, nth_beyond a k (by rw [HAL.out]; omega)]; omega
        subst hA'
        have hd39 : decide ((k : Int) < (n : Int)) = false := decide_eq_false (by omega)
        clear hA hL C ST Sa Sa'
        go_wp2
        go_loopw [9, 10, 11, 13] (fun c0 c1 c2 i wi => ∃ (i' : Nat) (q : Nat) (U : Int), i' ≤ nx ∧ U = A + col x y k i' ∧ c0 = .int .u64 (t0 U) ∧ c1 = .int .u64 (t1 U) ∧ c2 = .int .u64 (t2 U) ∧ i = .int .i64 i' ∧ wi = w1.drewN q) (fun _ _ _ i _ => nx - (intOf i).toNat)
        case atStart => exact ⟨0, 0, A, by omega, by simp [col], rfl, rfl, rfl, rfl, rfl⟩
        case round =>
          obtain ⟨i, q, U, hi, hU, rfl, rfl, rfl, rfl, hwi⟩ := hrel
          have HWI : Hid (wr = w1.drewN q) := hwi
          have STi : Hid (Step w.heap.size w.heap.size w wr (w.heap.size + 1) L) := by show Step _ _ _ _ _ _; rw [hwi]; exact HST.out.drewN q
          have Sxi := Sx.below STi.out.below
          have Syi := Sy.below STi.out.below
          have e2 := STi.out.blk.cell (k := k) (by rw [HL.out]; omega)
          have e3 := STi.out.blk.free k
          clear hwi Sx Sy
          have HU : Hid (U = A + col x y k i) := hU
          have UB := acc_small xw yw k i A (by omega) A0 A1
          rw [← hU] at UB
          obtain ⟨U0, U1⟩ := UB
          clear hU
          by_cases hix : i < nx
          · by_cases hik : i ≤ k
            · obtain ⟨j, hj⟩ : ∃ j : Nat, k = i + j := ⟨k - i, by omega⟩
              have HJ : Hid (k = i + j) := hj
              have hji : (k : Int) - (i : Int) = (j : Int) := by omega
              clear hj
              by_cases hjy : j < ny
              · obtain ⟨bx, offx, rfl, hbx, hcx⟩ := Sxi.at hix
                obtain ⟨by', offy, rfl, hby, hcy⟩ := Syi.at hjy
                have d1 := hcx i hix
                have d2 := hcy j hjy
                have i2 : (i : Int) < (nx : Int) := by omega
                have i3 : (j : Int) < (ny : Int) := by omega
                have wx := nth_word xw i
                have wy := nth_word yw j
                have wx0 := wx.1; have wx1 := wx.2; have wy0 := wy.1; have wy1 := wy.2
                clear hcx hcy Sxi Syi e2 e3
                go_wp2
                go_quiet ((go_at_call 16; exact Calls.quiet_of_same (mulWide (nth x i) (nth y j) wx0 wx1 wy0 wy1 _)))
                go_wp2_with (go_at_call 36; refine (addAccM U (nth x i) (nth y j) U0 U1 wx wy _).mono ?_; rintro e w' ⟨rfl, hw⟩; rw [hw]; clear hw)
                go_roundw
                case rel => exact ⟨i + 1, _, _, by omega, by rw [HU.out]; exact col_take x y k i j A HJ.out, rfl, rfl, rfl, by go_num, by rw [HWI.out, World.drewN_drewN]⟩
                case measure => simp [intOf]; omega
              · have i3 : (ny : Int) ≤ (j : Int) := by omega
                clear Sxi Syi e2 e3
                go_wp2
                go_roundw
                case rel => exact ⟨i + 1, _, U, by omega, by rw [HU.out, col_skip x y k i (fun _ => by rw [HYL.out, HJ.out]; omega)], rfl, rfl, rfl, by go_num, HWI.out⟩
                case measure => simp [intOf]; omega
            · have i3 : (k : Int) - (i : Int) < 0 := by omega
              clear Sxi Syi e2 e3
              go_wp2
              go_roundw
              case rel => exact ⟨i + 1, _, U, by omega, by rw [HU.out, col_skip x y k i (fun h => absurd h hik)], rfl, rfl, rfl, by go_num, HWI.out⟩
              case measure => simp [intOf]; omega
          · obtain rfl : i = nx := by omega
            have R := STi.out.set (Nat.le_refl _) k (t0_word U)
            have D := t_down U U0 U1
            have HD : Hid _ := D
            clear D Sxi Syi
            go_wp2
            go_roundw
            case rel => exact ⟨k + 1, U / 18446744073709551616, _, by omega, by rw [HD.out.1], by rw [HD.out.2.1], by rw [HD.out.2.2], by go_num, by rw [List.length_set]; exact HL.out, HC.out.next (by rw [HL.out]; omega) (by have h1 := HU.out; have h2 := HA.out; omega) U0 U1, R⟩
            case measure => simp [intOf]; omega
    · obtain rfl : k = n + 1 := by omega
      have hv := C.done Sx.word Sy.word Sa.word ST.word Sx.len (by rw [Sy.len]; omega) (by rw [Sa.len]; omega)
      have hB := ST.blk
      have HV : Hid (pre L (n + 1) = val x * val y + val a) := hv
      have HST : Hid (Step w.heap.size w.heap.size w w1 (w.heap.size + 1) L) := ST
      clear hv C ST hL
      go_wp2_with (go_at_call 27; refine (trimWords (n + 1) (n + 1) hB (by omega) (by rw [HL.out]; omega) (by omega)).mono ?_; rintro e w' ⟨m, rfl, hw, TR⟩; rw [hw]; clear hw)
      go_ret
      exact ⟨m, L, rfl, by rw [HL.out]; exact TR.le, by rw [pre_take, TR.pre, HV.out], norm_take L m (by rw [HL.out]; exact TR.le) TR.top, HST.out⟩

set_option maxRecDepth 100000 in
set_option maxHeartbeats 4000000 in
theorem modelMulAdd_xy {w : World} {ax ay aa : Option Addr} {nx ny na : Nat} {x y a : List Int} (cx cy ca n : Nat)
    (Sx : Sl w.heap.size w ax nx x) (Sy : Sl w.heap.size w ay ny y) (Sa : Sl w.heap.size w aa na a) (hx : nx ≤ 1000) (hy : ny ≤ 1000) (ha : na ≤ 1000) (hn : n = nx + ny) (hle : na ≤ nx + ny) :
    Calls Try.prog 19 #[.slice ax nx cx, .slice ay ny cy, .slice aa na ca] w fun e w' => ∃ m L, e = .returned (.slice (some ⟨w.heap.size, 0, none⟩) m (n + 1)) ∧ m ≤ L.length ∧ val (L.take m) = val x * val y + val a ∧ Norm (L.take m) ∧ Step w.heap.size w.heap.size w w' (w.heap.size + 1) L := by
  have hnn : (nx : Int) + (ny : Int) = (n : Int) := by omega
  have HN : Hid (n = nx + ny) := hn
  have hle2 : na ≤ n := by omega
  have hge2 : nx + ny ≤ n := by omega
  have hd25 : decide ((n : Int) < (na : Int)) = false := decide_eq_false (by omega)
  have hd25b : decide (n < na) = false := decide_eq_false (by omega)
  clear hn
  have hmk := make_run (n + 1) (by omega)
  rw [show ((n + 1 : Nat) : Int) = (n : Int) + 1 by omega] at hmk
  have M := Step.made w (n + 1)
  go_enter Try.func19, Try.ntmps19
  go_wp2
  clear hmk
  go_loopw [9, 10, 11, 12] (fun c0 c1 c2 i wr => ∃ (k : Nat) (T : Int) (L : List Int), k ≤ n + 1 ∧ c0 = .int .u64 (t0 T) ∧ c1 = .int .u64 (t1 T) ∧ c2 = .int .u64 (t2 T) ∧ i = .int .i64 k ∧ L.length = n + 1 ∧ Cols x y a L nx k T ∧ Step w.heap.size w.heap.size w wr (w.heap.size + 1) L) (fun _ _ _ i _ => n + 1 - (intOf i).toNat)
  case atStart => exact ⟨0, 0, _, by omega, rfl, rfl, rfl, rfl, List.length_replicate, Cols.start x y a nx (n + 1), M⟩
  case round =>
    clear M
    obtain ⟨k, T, L, hk, rfl, rfl, rfl, rfl, hL, C, ST⟩ := hrel
    obtain ⟨w1, hw1⟩ : ∃ w1, w1 = wr := ⟨_, rfl⟩
    subst hw1
    have HL : Hid (L.length = n + 1) := hL
    have T0 := C.t0; have T1 := C.t1
    by_cases hlt : k ≤ n
    · -- a's word of this column
      have key : ∃ T1 : Int, T1 = T + nth a k ∧ 0 ≤ T1 ∧ T1 ≤ 340282366920938463463374607431768211456 * 2 := ⟨_, rfl, by have := (nth_word Sa.word k).1; omega, by have := (nth_word Sa.word k).2; omega⟩
      obtain ⟨A, hA, A0, A1⟩ := key
      have HA : Hid (A = T + nth a k) := hA
      have HC : Hid (Cols x y a L nx k T) := C
      have HST : Hid (Step w.heap.size w.heap.size w w1 (w.heap.size + 1) L) := ST
      have Sa' := Sa.below ST.below
      have HYL : Hid (y.length = ny) := Sy.len
      have HAL : Hid (a.length = na) := Sa.len
      have xw := Sx.word; have yw := Sy.word
      by_cases hka : k < na
      · obtain ⟨ba, offa, rfl, hba, hca⟩ := Sa'.at hka
        have c1 := hca k hka
        have i1 : (k : Int) < (na : Int) := by omega
        have waw := nth_word Sa.word k
        have TB : T < 340282366920938463463374607431768211456000000 := by omega
        have hA' : T + nth a k = A := hA.symm
        clear hca hA hL C ST Sa Sa'
        go_wp2_with (go_at_call 36; refine (addAcc0 T (nth a k) T0 TB waw _).mono ?_; rintro e w' ⟨rfl, hw⟩; rw [hw]; clear hw)
        clear hA' c1 i1 waw TB
        go_loopw [9, 10, 11, 13] (fun c0 c1 c2 i wi => ∃ (i' : Nat) (q : Nat) (U : Int), i' ≤ nx ∧ U = A + col x y k i' ∧ c0 = .int .u64 (t0 U) ∧ c1 = .int .u64 (t1 U) ∧ c2 = .int .u64 (t2 U) ∧ i = .int .i64 i' ∧ wi = w1.drewN q) (fun _ _ _ i _ => nx - (intOf i).toNat)
        case atStart => exact ⟨0, 0, A, by omega, by simp [col], rfl, rfl, rfl, rfl, rfl⟩
        case round =>
          obtain ⟨i, q, U, hi, hU, rfl, rfl, rfl, rfl, hwi⟩ := hrel
          have HWI : Hid (wr = w1.drewN q) := hwi
          have STi : Hid (Step w.heap.size w.heap.size w wr (w.heap.size + 1) L) := by show Step _ _ _ _ _ _; rw [hwi]; exact HST.out.drewN q
          have Sxi := Sx.below STi.out.below
          have Syi := Sy.below STi.out.below
          have e2 := STi.out.blk.cell (k := k) (by rw [HL.out]; omega)
          have e3 := STi.out.blk.free k
          clear hwi Sx Sy
          have HU : Hid (U = A + col x y k i) := hU
          have UB := acc_small xw yw k i A (by omega) A0 A1
          rw [← hU] at UB
          obtain ⟨U0, U1⟩ := UB
          clear hU
          by_cases hix : i < nx
          · by_cases hik : i ≤ k
            · obtain ⟨j, hj⟩ : ∃ j : Nat, k = i + j := ⟨k - i, by omega⟩
              have HJ : Hid (k = i + j) := hj
              have hji : (k : Int) - (i : Int) = (j : Int) := by omega
              clear hj
              by_cases hjy : j < ny
              · obtain ⟨bx, offx, rfl, hbx, hcx⟩ := Sxi.at hix
                obtain ⟨by', offy, rfl, hby, hcy⟩ := Syi.at hjy
                have d1 := hcx i hix
                have d2 := hcy j hjy
                have i2 : (i : Int) < (nx : Int) := by omega
                have i3 : (j : Int) < (ny : Int) := by omega
                have wx := nth_word xw i
                have wy := nth_word yw j
                have wx0 := wx.1; have wx1 := wx.2; have wy0 := wy.1; have wy1 := wy.2
                clear hcx hcy Sxi Syi e2 e3
                go_wp2
                go_quiet ((go_at_call 16; exact Calls.quiet_of_same (mulWide (nth x i) (nth y j) wx0 wx1 wy0 wy1 _)))
                go_wp2_with (go_at_call 36; refine (addAccM U (nth x i) (nth y j) U0 U1 wx wy _).mono ?_; rintro e w' ⟨rfl, hw⟩; rw [hw]; clear hw)
                go_roundw
                case rel => exact ⟨i + 1, _, _, by omega, by rw [HU.out]; exact col_take x y k i j A HJ.out, rfl, rfl, rfl, by go_num, by rw [HWI.out, World.drewN_drewN]⟩
                case measure => simp [intOf]; omega
              · have i3 : (ny : Int) ≤ (j : Int) := by omega
                clear Sxi Syi e2 e3
                go_wp2
                go_roundw
                case rel => exact ⟨i + 1, _, U, by omega, by rw [HU.out, col_skip x y k i (fun _ => by rw [HYL.out, HJ.out]; omega)], rfl, rfl, rfl, by go_num, HWI.out⟩
                case measure => simp [intOf]; omega
            · have i3 : (k : Int) - (i : Int) < 0 := by omega
              clear Sxi Syi e2 e3
              go_wp2
              go_roundw
              case rel => exact ⟨i + 1, _, U, by omega, by rw [HU.out, col_skip x y k i (fun h => absurd h hik)], rfl, rfl, rfl, by go_num, HWI.out⟩
              case measure => simp [intOf]; omega
          · obtain rfl : i = nx := by omega
            have R := STi.out.set (Nat.le_refl _) k (t0_word U)
            have D := t_down U U0 U1
            have HD : Hid _ := D
            clear D Sxi Syi
            go_wp2
            go_roundw
            case rel => exact ⟨k + 1, U / 18446744073709551616, _, by omega, by rw [HD.out.1], by rw [HD.out.2.1], by rw [HD.out.2.2], by go_num, by rw [List.length_set]; exact HL.out, HC.out.next (by rw [HL.out]; omega) (by have h1 := HU.out; have h2 := HA.out; omega) U0 U1, R⟩
            case measure => simp [intOf]; omega
      · have hA' : A = T := by rw [HA.out, nth_beyond a k (by rw [HAL.out]; omega)]; omega
        subst hA'
        have hd39 : decide ((k : Int) < (na : Int)) = false := decide_eq_false (by omega)
        clear hA hL C ST Sa Sa'
        go_wp2
        go_loopw [9, 10, 11, 13] (fun c0 c1 c2 i wi => ∃ (i' : Nat) (q : Nat) (U : Int), i' ≤ nx ∧ U = A + col x y k i' ∧ c0 = .int .u64 (t0 U) ∧ c1 = .int .u64 (t1 U) ∧ c2 = .int .u64 (t2 U) ∧ i = .int .i64 i' ∧ wi = w1.drewN q) (fun _ _ _ i _ => nx - (intOf i).toNat)
        case atStart => exact ⟨0, 0, A, by omega, by simp [col], rfl, rfl, rfl, rfl, rfl⟩
        case round =>
          obtain ⟨i, q, U, hi, hU, rfl, rfl, rfl, rfl, hwi⟩ := hrel
          have HWI : Hid (wr = w1.drewN q) := hwi
          have STi : Hid (Step w.heap.size w.heap.size w wr (w.heap.size + 1) L) := by show Step _ _ _ _ _ _; rw [hwi]; exact HST.out.drewN q
          have Sxi := Sx.below STi.out.below
          have Syi := Sy.below STi.out.below
          have e2 := STi.out.blk.cell (k := k) (by rw [HL.out]; omega)
          have e3 := STi.out.blk.free k
          clear hwi Sx Sy
          have HU : Hid (U = A + col x y k i) := hU
          have UB := acc_small xw yw k i A (by omega) A0 A1
          rw [← hU] at UB
          obtain ⟨U0, U1⟩ := UB
          clear hU
          by_cases hix : i < nx
          · by_cases hik : i ≤ k
            · obtain ⟨j, hj⟩ : ∃ j : Nat, k = i + j := ⟨k - i, by omega⟩
              have HJ : Hid (k = i + j) := hj
              have hji : (k : Int) - (i : Int) = (j : Int) := by omega
              clear hj
              by_cases hjy : j < ny
              · obtain ⟨bx, offx, rfl, hbx, hcx⟩ := Sxi.at hix
                obtain ⟨by', offy, rfl, hby, hcy⟩ := Syi.at hjy
                have d1 := hcx i hix
                have d2 := hcy j hjy
                have i2 : (i : Int) < (nx : Int) := by omega
                have i3 : (j : Int) < (ny : Int) := by omega
                have wx := nth_word xw i
                have wy := nth_word yw j
                have wx0 := wx.1; have wx1 := wx.2; have wy0 := wy.1; have wy1 := wy.2
                clear hcx hcy Sxi Syi e2 e3
                go_wp2
                go_quiet ((go_at_call 16; exact Calls.quiet_of_same (mulWide (nth x i) (nth y j) wx0 wx1 wy0 wy1 _)))
                go_wp2_with (go_at_call 36; refine (addAccM U (nth x i) (nth y j) U0 U1 wx wy _).mono ?_; rintro e w' ⟨rfl, hw⟩; rw [hw]; clear hw)
                go_roundw
                case rel => exact ⟨i + 1, _, _, by omega, by rw [HU.out]; exact col_take x y k i j A HJ.out, rfl, rfl, rfl, by go_num, by rw [HWI.out, World.drewN_drewN]⟩
                case measure => simp [intOf]; omega
              · have i3 : (ny : Int) ≤ (j : Int) := by omega
                clear Sxi Syi e2 e3
                go_wp2
                go_roundw
                case rel => exact ⟨i + 1, _, U, by omega, by rw [HU.out, col_skip x y k i (fun _ => by rw [HYL.out, HJ.out]; omega)], rfl, rfl, rfl, by go_num, HWI.out⟩
                case measure => simp [intOf]; omega
            · have i3 : (k : Int) - (i : Int) < 0 := by omega
              clear Sxi Syi e2 e3
              go_wp2
              go_roundw
              case rel => exact ⟨i + 1, _, U, by omega, by rw [HU.out, col_skip x y k i (fun h => absurd h hik)], rfl, rfl, rfl, by go_num, HWI.out⟩
              case measure => simp [intOf]; omega
          · obtain rfl : i = nx := by omega
            have R := STi.out.set (Nat.le_refl _) k (t0_word U)
            have D := t_down U U0 U1
            have HD : Hid _ := D
            clear D Sxi Syi
            go_wp2
            go_roundw
            case rel => exact ⟨k + 1, U / 18446744073709551616, _, by omega, by rw [HD.out.1], by rw [HD.out.2.1], by rw [HD.out.2.2], by go_num, by rw [List.length_set]; exact HL.out, HC.out.next (by rw [HL.out]; omega) (by have h1 := HU.out; have h2 := HA.out; omega) U0 U1, R⟩
            case measure => simp [intOf]; omega
    · obtain rfl : k = n + 1 := by omega
      have hv := C.done Sx.word Sy.word Sa.word ST.word Sx.len (by rw [Sy.len]; omega) (by rw [Sa.len]; omega)
      have hB := ST.blk
      have HV : Hid (pre L (n + 1) = val x * val y + val a) := hv
      have HST : Hid (Step w.heap.size w.heap.size w w1 (w.heap.size + 1) L) := ST
      clear hv C ST hL
      go_wp2_with (go_at_call 27; refine (trimWords (n + 1) (n + 1) hB (by omega) (by rw [HL.out]; omega) (by omega)).mono ?_; rintro e w' ⟨m, rfl, hw, TR⟩; rw [hw]; clear hw)
      go_ret
      exact ⟨m, L, rfl, by rw [HL.out]; exact TR.le, by rw [pre_take, TR.pre, HV.out], norm_take L m (by rw [HL.out]; exact TR.le) TR.top, HST.out⟩

end Go.Proofs.Qxb6620824a
