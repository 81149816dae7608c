/-
  nat.Quo: the walk of the long division.
-/
import Derived.Test.Qxb6620824aQuoSmall
import Derived.Deep.CutRange
set_option linter.unusedVariables false
namespace Go.Proofs.Qxb6620824a
open Go.RowKit Plain

/-- Two rows of the call's own: x's and z's. -/
structure Duo (bx bz : Nat) (w wr : World) (X Z : List Int) : Prop where
  bX : Blk wr bx X
  bZ : Blk wr bz Z
  below : Below bx w wr
  size : wr.heap.size = w.heap.size
  wX : Words X
  wZ : Words Z

theorem size_setCell (w : World) (a : Addr) (v : Value) : (w.setCell a v).heap.size = w.heap.size := by simp only [World.setCell, Array.size_modify]
theorem Duo.setX {bx bz : Nat} {w wr : World} {X Z : List Int} (h : Duo bx bz w wr X Z) (hb : bx < bz) (k : Nat) {v : Int} (hv : Word v) : Duo bx bz w (wr.setCell ⟨bx, k, none⟩ (.int .u64 v)) (X.set k v) Z :=
  ⟨h.bX.set k v, h.bZ.other (a := ⟨bx, k, none⟩) (by show bz ≠ bx; omega) _, h.below.setCell (p := ⟨bx, k, none⟩) (Nat.le_refl _) _, by rw [size_setCell]; exact h.size, h.wX.set k hv, h.wZ⟩
theorem Duo.setZ {bx bz : Nat} {w wr : World} {X Z : List Int} (h : Duo bx bz w wr X Z) (hb : bx < bz) (k : Nat) {v : Int} (hv : Word v) : Duo bx bz w (wr.setCell ⟨bz, k, none⟩ (.int .u64 v)) X (Z.set k v) :=
  ⟨h.bX.other (a := ⟨bz, k, none⟩) (by show bx ≠ bz; omega) _, h.bZ.set k v, h.below.setCell (p := ⟨bz, k, none⟩) (Nat.le_of_lt hb) _, by rw [size_setCell]; exact h.size, h.wX, h.wZ.set k hv⟩
theorem Duo.drew {bx bz : Nat} {w wr : World} {X Z : List Int} (h : Duo bx bz w wr X Z) : Duo bx bz w wr.drew X Z := ⟨h.bX, h.bZ, h.below.drew, h.size, h.wX, h.wZ⟩
theorem Duo.drewN {bx bz : Nat} {w wr : World} {X Z : List Int} (h : Duo bx bz w wr X Z) (n : Nat) : Duo bx bz w (wr.drewN n) X Z := ⟨h.bX, h.bZ, Below.drewN' h.below n, h.size, h.wX, h.wZ⟩

/-- nat.wordBelow, at whatever place. -/
theorem wordBelow {w : World} {b off n : Nat} {l : List Int} (cap : Nat) (p : Int) (q : Nat) (hp : p = (q : Int)) (hq : q ≤ n) (hn : n ≤ 1000000) (hc : ∀ t, t < n → w.cell? ⟨b, off + t, none⟩ = some (.int .u64 (nth l t))) :
    Calls Try.prog 31 #[.slice (some ⟨b, off, none⟩) n cap, .int .i64 p] w fun e w' => e = .returned (.int .u64 (wb l q)) ∧ w' = w := by
  cases q with
  | zero => subst hp; exact wordBelow_zero _ w
  | succ t => exact wordBelow_succ b off n cap t _ p (by omega) (by omega) hn w (hc t (by omega))

set_option maxRecDepth 100000 in
set_option maxHeartbeats 16000000 in
theorem quo_walk {w : World} {bx bz by' oy : Nat} {nx n m e e1 k : Nat} {X y Z : List Int} {P R x0 : Int} (cx cy nz cz lx : Nat) (hbz : bx < bz) (hby : by' < bx)
    (hy : ∀ t, t < n → w.cell? ⟨by', oy + t, none⟩ = some (.int .u64 (nth y t))) (D : Div y e P R k) (hk : k < 64) (hkP : P = 2 ^ k) (hkR : R = 2 ^ (64 - k)) (hlz : lz (nth y e1) = (k : Int))
    (hn : n = e + 2) (he1 : e1 = e + 1) (hm : nx = m + n) (hV : pw (e + 1) ≤ val y) (DU : Duo bx bz w w X Z) (hX : X.length = lx) (hnx : nx ≤ lx) (hnc : nx ≤ cx) (hlx : lx ≤ 1000000) (hcx : cx ≤ 1000000) (hx0 : x0 = pre X nx)
    (hxn : ∀ r, m = r + 1 → val y * pw r ≤ x0) (hz : Z.length = cz) (hcz : m + 1 ≤ cz) (hczm : cz ≤ 1000000) (hnz : nz ≤ cz) (hny : n ≤ cy) :
    Calls Try.prog 13 #[.slice (some ⟨bz, 0, none⟩) nz cz, .slice (some ⟨bx, 0, none⟩) nx cx, .slice (some ⟨by', oy, none⟩) n cy] w fun ee w' => ∃ a Z' X', ee = .returned (.slice (some ⟨bz, 0, none⟩) a cz) ∧ Z'.length = cz ∧ a ≤ m + 1 ∧ val (Z'.take a) = x0 / val y ∧ Norm (Z'.take a) ∧ Duo bx bz w w' X' Z' := by
  have hmI : (nx : Int) - (n : Int) = (m : Int) := by omega
  have hn1 : (n : Int) - 1 = (e1 : Int) := by omega
  have hn2 : (n : Int) - 2 = (e : Int) := by omega
  have hd0 : ((n : Int) == 0) = false := by simp; omega
  have hd1 : ((n : Int) == 1) = false := by simp; omega
  have hd2 : decide ((nx : Int) < (n : Int)) = false := decide_eq_false (by omega)
  have hd3 : decide (nx < n) = false := decide_eq_false (by omega)
  have HN : Hid (n = e + 2) := hn
  have HE1 : Hid (e1 = e + 1) := he1
  have HM : Hid (nx = m + n) := hm
  have HX0 : Hid (x0 = pre X nx) := hx0
  have HXl : Hid (X.length = lx) := hX
  have HZl : Hid (Z.length = cz) := hz
  have HXN : Hid _ := hxn
  have HY : Hid _ := hy
  have Hy1 := hy e1 (by omega)
  have Hy2 := hy e (by omega)
  have wy := D.w
  have wy1 := nth_word wy e1
  have wy10 := wy1.1
  have wy11 : nth y e1 ≤ 18446744073709551615 := by have := wy1.2; omega
  have wy2 := nth_word wy e
  have wyb := wb_word wy e
  have HkP : Hid (P = 2 ^ k) := hkP
  have HkR : Hid (R = 2 ^ (64 - k)) := hkR
  have HD : Hid _ := D
  have hlen : e1 < n := by omega
  have hlen2 : e < n := by omega
  have i1 : (e1 : Int) < (n : Int) := by omega
  have i2 : (e : Int) < (n : Int) := by omega
  have g1 : m + 1 ≤ 1000000 := by omega
  have g2 : n ≤ 1000000 := by omega
  have g3 : nx ≤ 1000000 := by omega
  have g4 : 1 < n := by omega
  have g5 : n ≤ nx := by omega
  obtain ⟨T1, hT1⟩ : ∃ t, sT P R (nth y e1) (nth y e) = t := ⟨_, rfl⟩
  obtain ⟨T0, hT0⟩ : ∃ t, sT P R (nth y e) (wb y e) = t := ⟨_, rfl⟩
  have HT1 : Hid (v1 y e P R = T1) := by show _ = _; rw [← hT1, he1]; rfl
  have HT0 : Hid (v0 y e P R = T0) := hT0
  clear hn he1 hm hx0 hX hz hxn hy hkP hkR D
  go_enter Try.func13, Try.ntmps13
  go_wp2_with (go_at_call 29; refine (leading (nth y e1) _ wy10 wy11).mono ?_; rintro e w' ⟨rfl, hw⟩; rw [hw]; clear hw)
  go_quiet ((first | (go_at_call_of 30 (Value.int IntKind.u64 (nth y e1)); exact Calls.quiet_of_same (shiftedTop (nth y e1) (nth y e) P R k hk HkP.out HkR.out wy1 wy2 _)) | (go_at_call 31; exact Calls.quiet_of_same (wordBelow (l := y) cy (e : Int) e rfl (by omega) g2 HY.out)) | (go_at_call 30; exact Calls.quiet_of_same (shiftedTop (nth y e) (wb y e) P R k hk HkP.out HkR.out wy2 wyb _))))
  go_wp2
  simp only [hT1, hT0]
  clear hlz hd0 hd1 hd2 hd3 Hy1 Hy2 hT1 hT0
  go_loopw [12, 13] (fun h i wr => ∃ (t : Nat) (high : Int) (X Z : List Int), t ≤ m + 1 ∧ h = .int .u64 high ∧ i = .int .i64 ((t : Int) - 1) ∧ X.length = lx ∧ Z.length = cz ∧ QInv X Z y e (m + 1) t x0 high ∧ Duo bx bz w wr X Z) (fun _ i _ => (intOf i + 1).toNat)
  case atStart =>
    refine ⟨m + 1, 0, X, Z, by omega, rfl, by go_num, HXl.out, HZl.out, ?_, DU.drewN _⟩
    have := QInv.start (X := X) (Z := Z) (y := y) (e := e) (m := m) HD.out DU.wX hV
    rw [HX0.out, HM.out, HN.out]
    rwa [show m + 1 + e + 1 = m + (e + 2) by omega] at this
  case round =>
    clear DU HX0 HXl HZl
    obtain ⟨t, high, X, Z, ht, rfl, rfl, hX, hZ, I, DU⟩ := hrel
    obtain ⟨w1, hw1⟩ : ∃ w1, w1 = wr := ⟨_, rfl⟩
    subst hw1
    have HX : Hid (X.length = lx) := hX
    have HZ : Hid (Z.length = cz) := hZ
    have HI : Hid _ := I
    have HDU : Hid _ := DU
    have whigh := I.h
    by_cases h0 : 0 < t
    · obtain ⟨j, rfl⟩ : ∃ j, t = j + 1 := ⟨t - 1, by omega⟩
      have hjq : ((j + 1 : Nat) : Int) - 1 = (j : Int) := by omega
      rw [hjq]
      have Hn2 := HN.out
      have He2 := HE1.out
      have Hm2 := HM.out
      have j1 : (j : Int) + (n : Int) - 1 = (j : Int) + (e1 : Int) := by omega
      have j2 : (j : Int) + (n : Int) - 2 = (j : Int) + (e : Int) := by omega
      have f1 : (j : Int) + (e1 : Int) < (nx : Int) := by omega
      have f2 : (j : Int) + (e : Int) < (nx : Int) := by omega
      have f3 : (j : Int) < (m : Int) + 1 := by omega
      have f3' : j < m + 1 := by omega
      have f4 : j + n ≤ nx := by omega
      have f5 : j + e1 < nx := by omega
      have f6 : (j : Int) + (n : Int) ≤ (cx : Int) := by omega
      have f7 : ¬ cx = j := by omega
      have f8 : j + e1 < j + n := by omega
      have c1 := DU.bX.cell (k := j + e1) (by omega)
      have c2 := DU.bX.cell (k := j + e) (by omega)
      have cZ := DU.bZ.cell (k := j) (by omega)
      have cZf := DU.bZ.free j
      have cA : ∀ t, t < nx → w1.cell? ⟨bx, 0 + t, none⟩ = some (.int .u64 (nth X t)) := fun t ht => by rw [Nat.zero_add]; exact DU.bX.cell (by omega)
      have HcA : Hid _ := cA
      have HM0 := I.rem HD.out DU.wX
      have HRem : Hid _ := HM0
      have wx1 := nth_word DU.wX (j + e1)
      have wx2 := nth_word DU.wX (j + e)
      have wxb := wb_word DU.wX (j + e)
      obtain ⟨U2, hU2⟩ : ∃ u, sT P R high (nth X (j + e1)) = u := ⟨_, rfl⟩
      obtain ⟨U1, hU1⟩ : ∃ u, sT P R (nth X (j + e1)) (nth X (j + e)) = u := ⟨_, rfl⟩
      obtain ⟨U0, hU0⟩ : ∃ u, sT P R (nth X (j + e)) (wb X (j + e)) = u := ⟨_, rfl⟩
      have HU2 : Hid (u2 X e j P R high = U2) := by show _ = _; rw [← hU2, He2]; rfl
      have HU1 : Hid (u1 X e j P R = U1) := by show _ = _; rw [← hU1, He2]; rfl
      have HU0 : Hid (u0 X e j P R = U0) := hU0
      have wU2 : Word U2 := by rw [← HU2.out]; exact u2_word HM0
      have wU1 : Word U1 := by rw [← HU1.out]; exact u1_word HM0
      have wU0 : Word U0 := by rw [← HU0.out]; exact u0_word HM0
      have wT1 : Word T1 := by rw [← HT1.out]; exact HD.out.v1_word
      have wT0 : Word T0 := by rw [← HT0.out]; exact HD.out.v0_word
      have pT1 : 0 < T1 := by rw [← HT1.out]; have := HD.out.v1_top; omega
      have lU2 : U2 ≤ T1 := by rw [← HT1.out, ← HU2.out]; exact u2_le HM0
      have wU2a := wU2.1; have wU2b := wU2.2; have wU1a := wU1.1; have wU1b := wU1.2; have wT1a := wT1.1; have wT1b := wT1.2
      clear hX hZ I DU hjq Hn2 He2 Hm2 cA HM0
      by_cases hsk : U2 = 0 ∧ U1 < T1
      · obtain ⟨hs2, hs1⟩ := hsk
        have SK := skip_zero HRem.out (by rw [HU2.out]; exact hs2) (by rw [HU1.out, HT1.out]; exact hs1)
        have hI2 : Hid (QInv X (Z.set j 0) y e (m + 1) j x0 (nth X (j + e1))) := by
          show QInv _ _ _ _ _ _ _ _
          have h := HI.out
          rw [SK.1] at h
          have := QInv.skip (P := P) (R := R) (k := k) h HDU.out.wX (by omega) (by rw [HZ.out]; omega) (by have := SK.2; rwa [SK.1] at this)
          rwa [HE1.out, ← Nat.add_assoc]
        have SN : Hid _ := HDU.out.setZ hbz j word_zero
        subst hs2
        clear SK
        go_wp2
        go_quiet (fail)
        go_wp2_with (first | (go_at_call_of 30 (Value.int IntKind.u64 high); refine (shiftedTop high (nth X (j + e1)) P R k hk HkP.out HkR.out whigh wx1 _).mono ?_; rintro e w' ⟨rfl, hw⟩; rw [hw]; clear hw) | (go_at_call_of 30 (Value.int IntKind.u64 (nth X (j + e1))); refine (shiftedTop (nth X (j + e1)) (nth X (j + e)) P R k hk HkP.out HkR.out wx1 wx2 _).mono ?_; rintro e w' ⟨rfl, hw⟩; rw [hw]; clear hw) | (go_at_call 31; refine (wordBelow (l := X) cx ((j : Int) + (e : Int)) (j + e) (by omega) (by omega) g3 (by exact HcA.out)).mono ?_; rintro e w' ⟨rfl, hw⟩; rw [hw]; clear hw) | (go_at_call 30; refine (shiftedTop (nth X (j + e)) (wb X (j + e)) P R k hk HkP.out HkR.out wx2 wxb _).mono ?_; rintro e w' ⟨rfl, hw⟩; rw [hw]; clear hw))
        go_roundw
        case rel => exact ⟨j, _, X, _, by omega, rfl, by go_num, HX.out, by rw [List.length_set]; exact HZ.out, hI2.out, SN.out.drewN _⟩
        case measure => simp [intOf]
      · have hsk' : ((U2 == 0) = true ∧ T1 ≤ U1) ∨ (U2 == 0) = false := by
          by_cases hz : U2 = 0
          · exact .inl ⟨by simpa using hz, by have : ¬ U1 < T1 := fun h => hsk ⟨hz, h⟩; omega⟩
          · exact .inr (by simpa using hz)
        obtain ⟨E, hE⟩ : ∃ E, est U2 U1 U0 T1 T0 = E := ⟨_, rfl⟩
        have wE : Word E := by rw [← hE]; exact est_word _ _ _ _ _ wU2 wU1 wU0 wT1 wT0
        have E1 : Hid (quo X y e j high ≤ E) := by
          show _ ≤ _
          have := est_ge HRem.out
          rwa [HU2.out, HU1.out, HU0.out, HT1.out, HT0.out, hE] at this
        have E2 : Hid (E ≤ quo X y e j high + 1) := by
          show _ ≤ _
          have := est_le HRem.out
          rwa [HU2.out, HU1.out, HU0.out, HT1.out, HT0.out, hE] at this
        have q0 : 0 ≤ quo X y e j high := (quo_word HRem.out).1
        have hsl : j + n - j = n := by omega
        have wE0 := wE.1; have wE1 := wE.2
        clear hsk
        go_upto_region 16 with fail
        go_quiet (fail)
        go_upto_region 18 with (first | (go_at_call_of 30 (Value.int IntKind.u64 high); refine (shiftedTop high (nth X (j + e1)) P R k hk HkP.out HkR.out whigh wx1 _).mono ?_; rintro e w' ⟨rfl, hw⟩; rw [hw]; clear hw) | (go_at_call_of 30 (Value.int IntKind.u64 (nth X (j + e1))); refine (shiftedTop (nth X (j + e1)) (nth X (j + e)) P R k hk HkP.out HkR.out wx1 wx2 _).mono ?_; rintro e w' ⟨rfl, hw⟩; rw [hw]; clear hw) | (go_at_call 31; refine (wordBelow (l := X) cx ((j : Int) + (e : Int)) (j + e) (by omega) (by omega) g3 (by exact HcA.out)).mono ?_; rintro e w' ⟨rfl, hw⟩; rw [hw]; clear hw) | (go_at_call 30; refine (shiftedTop (nth X (j + e)) (wb X (j + e)) P R k hk HkP.out HkR.out wx2 wxb _).mono ?_; rintro e w' ⟨rfl, hw⟩; rw [hw]; clear hw))
        clear hU2 hU1 hU0 c2 cZ cZf HcA
        obtain ⟨w2, hw2⟩ : ∃ w2, w2 = w1.drewN nq := ⟨_, rfl⟩
        have DU2 : Hid (Duo bx bz w w2 X Z) := by show Duo _ _ _ _ _ _; rw [hw2]; exact HDU.out.drewN nq
        rw [← hw2]
        clear hw2
        go_cut [135] from 129 to 134 (fun s w' => s = .bool false ∧ w' = w2)
        case first =>
          rcases hsk' with ⟨ha, hb⟩ | ha
          · go_wp2
            go_meet
            case rel => exact ⟨by simp; omega, rfl⟩
          · go_wp2
            go_meet
            case rel => exact ⟨rfl, rfl⟩
        case rest =>
          obtain ⟨rfl, hwc⟩ := hcut
          subst hwc
          clear hsk'
          go_wp2_with (go_at_call 32; refine (estimate U2 U1 U0 T1 T0 wU2 wU1 wU0 wT1 wT0 pT1 lU2 _).mono ?_; rintro e w' ⟨rfl, nn, hw⟩; rw [hw]; clear hw)
          obtain ⟨w3, hw3⟩ : ∃ w3, w3 = wc.drewN nn := ⟨_, rfl⟩
          have DU3 : Hid (Duo bx bz w w3 X Z) := by show Duo _ _ _ _ _ _; rw [hw3]; exact DU2.out.drewN nn
          rw [← hw3]
          simp only [hsl]
          clear hw3 hsl hE
          have HYl : Hid (y.length = n) := by show _ = _; rw [HD.out.len, HN.out]
          obtain ⟨G, hG⟩ : ∃ G, G = pre X (j + y.length) := ⟨_, rfl⟩
          have HG : Hid (G = pre X (j + y.length)) := hG
          have S0 : Hid (SubJ X y E G j 0 0) := by show SubJ _ _ _ _ _ _ _; rw [hG]; exact SubJ.start
          clear hG
          go_loopw [21, 154] (fun c i w5 => ∃ (i' : Nat) (c' : Int) (X' : List Int), i' ≤ n ∧ c = .int .u64 c' ∧ i = .int .i64 i' ∧ X'.length = lx ∧ SubJ X' y E G j i' c' ∧ Duo bx bz w w5 X' Z) (fun _ i _ => n - (intOf i).toNat)
          case atStart => exact ⟨0, 0, X, by omega, rfl, rfl, HX.out, S0.out, DU3.out⟩
          case round =>
            clear S0 DU3 DU2 c1
            obtain ⟨i, c, X', hi, rfl, rfl, hX', S, DU⟩ := hrel
            have HX' : Hid (X'.length = lx) := hX'
            have HS : Hid _ := S
            have HDU' : Hid _ := DU
            have wc' := S.car
            by_cases hin : i < n
            · have k1 : (i : Int) < (n : Int) := by omega
              have d1 : wr.cell? ⟨by', oy + i, none⟩ = some (.int .u64 (nth y i)) := (DU.below.cell (p := ⟨by', oy + i, none⟩) hby).trans (HY.out i hin)
              have d2 := DU.bX.cell (k := j + i) (by omega)
              have d3 := DU.bX.free (j + i)
              have wyi := nth_word wy i
              have wxi := nth_word DU.wX (j + i)
              obtain ⟨s1, s2, s3, s4, s5⟩ := sub_word E (nth y i) c (nth X' (j + i)) wE wyi wc' wxi
              unfold nc at s3 s4
              have SN := S.next (by rw [HYl.out]; exact hin) (by rw [HYl.out, HX'.out]; omega) DU.wX wy wE
              have DN := DU.setX hbz (j + i) (sS_wd (nth X' (j + i)) (aS (mL E (nth y i)) c 0) 0)
              have ml0 := (mL_word E (nth y i)).1
              have as0 := (aS_wd' (mL E (nth y i)) c 0).1
              have as1 := (aS_wd' (mL E (nth y i)) c 0).2
              have wyi0 := wyi.1; have wyi1 := wyi.2; have wxi0 := wxi.1; have wc0 := wc'.1
              clear hX' S DU s5
              go_wp2_with (first | (go_at_call 33; refine (bMul E (nth y i) wE0 wE1 wyi0 wyi1 _).mono ?_; rintro e w' ⟨rfl, hw⟩; rw [hw]; clear hw) | (go_at_call 34; refine (bAdd (mL E (nth y i)) c 0 ml0 wc0 (by decide) (by decide) _).mono ?_; rintro e w' ⟨rfl, hw⟩; rw [hw]; clear hw) | (go_at_call 35; refine (bSub (nth X' (j + i)) (aS (mL E (nth y i)) c 0) 0 wxi0 as0 as1 (by decide) (by decide) _).mono ?_; rintro e w' ⟨rfl, hw⟩; rw [hw]; clear hw))
              go_roundw
              case rel => exact ⟨i + 1, nc E (nth y i) c (nth X' (j + i)), _, by omega, rfl, by go_num, by rw [List.length_set]; exact HX'.out, SN, DN⟩
              case measure => simp [intOf]; omega
            · obtain rfl : i = n := by omega
              obtain ⟨w5, hw5⟩ : ∃ w5, w5 = wr := ⟨_, rfl⟩
              subst hw5
              have SS : SubJ X' y E (pre X (j + y.length)) j y.length c := by rw [← HG.out, HYl.out]; exact S
              have cz1 := DU.bZ.cell (k := j) (by rw [HZ.out]; omega)
              have czf := DU.bZ.free j
              have wh0 := whigh.1
              have wc0 := wc'.1; have wc1 := wc'.2
              have k2 : (e1 : Int) < (i : Int) := by omega
              by_cases hb : high < c
              · have hsb : sB high c 0 = 1 := by unfold sB; rw [if_pos (by omega)]
                have hE1 := sub_over HRem.out SS DU.wX E1.out E2.out hb
                have hEp : 1 ≤ E := by omega
                have HSS : Hid _ := SS
                obtain ⟨G2, hG2⟩ : ∃ G2, G2 = pre X' (j + y.length) := ⟨_, rfl⟩
                have HG2 : Hid (G2 = pre X' (j + y.length)) := hG2
                have A0 : Hid (AddJ X' y G2 j 0 0) := by show AddJ _ _ _ _ _ _; rw [hG2]; exact AddJ.start
                have HDX : Hid _ := DU.wX
                clear hX' S DU SS hE1 hG2
                go_wp2_with (go_at_call 35; refine (bSub high c 0 wh0 wc0 wc1 (by decide) (by decide) _).mono ?_; rintro e w' ⟨rfl, hw⟩; rw [hw]; clear hw)
                try simp only [hsb]
                clear hsb cz1 czf
                go_loopw [21, 202] (fun c iv w7 => ∃ (i' : Nat) (c' : Int) (X'' : List Int), i' ≤ i ∧ c = .int .u64 c' ∧ iv = .int .i64 i' ∧ X''.length = lx ∧ AddJ X'' y G2 j i' c' ∧ Duo bx bz w w7 X'' Z) (fun _ iv _ => i - (intOf iv).toNat)
                case atStart => exact ⟨0, 0, X', by omega, rfl, rfl, HX'.out, A0.out, HDU'.out⟩
                case round =>
                  clear A0 HDU' HX'
                  obtain ⟨t, c2, X'', ht2, rfl, rfl, hX'', AJ, DU⟩ := hrel
                  have HX'' : Hid (X''.length = lx) := hX''
                  have HDU'' : Hid _ := DU
                  have b0 := AJ.c0
                  have b1 := AJ.c1
                  by_cases hti : t < i
                  · have k1 : (t : Int) < (i : Int) := by omega
                    have d1 : wr.cell? ⟨by', oy + t, none⟩ = some (.int .u64 (nth y t)) := (DU.below.cell (p := ⟨by', oy + t, none⟩) hby).trans (HY.out t hti)
                    have d2 := DU.bX.cell (k := j + t) (by omega)
                    have d3 := DU.bX.free (j + t)
                    have wyi0 := (nth_word wy t).1
                    have wxi0 := (nth_word DU.wX (j + t)).1
                    have AN := AJ.next (by rw [HYl.out]; exact hti) (by rw [HYl.out, HX''.out]; omega) DU.wX wy
                    have DN := DU.setX hbz (j + t) (aS_wd' (nth X'' (j + t)) (nth y t) c2)
                    clear hX'' AJ DU
                    go_wp2_with (go_at_call 34; refine (bAdd (nth X'' (j + t)) (nth y t) c2 wxi0 wyi0 b0 b1 _).mono ?_; rintro e w' ⟨rfl, hw⟩; rw [hw]; clear hw)
                    go_roundw
                    case rel => exact ⟨t + 1, _, _, by omega, rfl, by go_num, by rw [List.length_set]; exact HX''.out, AN, DN⟩
                    case measure => simp [intOf]; omega
                  · obtain rfl : t = i := by omega
                    have SB := sub_back HRem.out HSS.out (by rw [← HG2.out, HYl.out]; exact AJ) HDX.out DU.wX E1.out E2.out hb
                    have d2 := DU.bX.cell (k := j + e1) (by omega)
                    have cz1 := DU.bZ.cell (k := j) (by rw [HZ.out]; omega)
                    have czf := DU.bZ.free j
                    have wE2 : Word (E - 1) := ⟨by omega, by omega⟩
                    have k3 : (e1 : Int) < (t : Int) := by omega
                    have IN : Hid (QInv X'' (Z.set j (E - 1)) y e (m + 1) j x0 (nth X'' (j + e1))) := by
                      show QInv _ _ _ _ _ _ _ _
                      have := HI.out.next HRem.out DU.wX (by omega) (by rw [HZ.out]; omega) SB.2
                      rw [← SB.1] at this
                      rwa [HE1.out, ← Nat.add_assoc]
                    have SN : Hid _ := DU.setZ hbz j wE2
                    clear hX'' AJ DU SB
                    go_wp2
                    go_roundw
                    case rel => exact ⟨j, _, X'', _, by omega, rfl, by go_num, HX''.out, by rw [List.length_set]; exact HZ.out, IN.out, SN.out⟩
                    case measure => simp [intOf]
              · have hsb : sB high c 0 = 0 := by unfold sB; rw [if_neg (by omega)]
                have SF := sub_fits HRem.out SS DU.wX E1.out hb
                have d2 := DU.bX.cell (k := j + e1) (by omega)
                have IN : Hid (QInv X' (Z.set j E) y e (m + 1) j x0 (nth X' (j + e1))) := by
                  show QInv _ _ _ _ _ _ _ _
                  have := HI.out.next HRem.out DU.wX (by omega) (by rw [HZ.out]; omega) SF.2
                  rw [← SF.1] at this
                  rwa [HE1.out, ← Nat.add_assoc]
                have SN : Hid _ := DU.setZ hbz j wE
                clear hX' S DU SS SF
                go_wp2_with (go_at_call 35; refine (bSub high c 0 wh0 wc0 wc1 (by decide) (by decide) _).mono ?_; rintro e w' ⟨rfl, hw⟩; rw [hw]; clear hw)
                go_roundw
                case rel => exact ⟨j, _, X', _, by omega, rfl, by go_num, HX'.out, by rw [List.length_set]; exact HZ.out, IN.out, SN.out⟩
                case measure => simp [intOf]
    · obtain rfl : t = 0 := by omega
      have hV0 : 0 < val y := by have := pw_pos (e + 1); omega
      have QD := I.done DU.wX hV0
      have QN := quo_norm DU.wZ m 0 x0 (val y) (by omega) QD hV0 HXN.out
      have cz1 := DU.bZ.cell (k := m) (by omega)
      have ez : (m : Int) < (m : Int) + 1 := by omega
      by_cases hz0 : nth Z m = 0
      · have A1 : Hid _ := (QN.1 hz0).1
        have A2 : Hid _ := (QN.1 hz0).2
        rw [hz0] at cz1
        clear hz0 QN QD hX hZ I DU
        go_wp2
        go_ret
        exact ⟨m, Z, X, rfl, HZ.out, by omega, A1.out, A2.out, HDU.out⟩
      · have A1 : Hid _ := (QN.2 hz0).1
        have A2 : Hid _ := (QN.2 hz0).2
        have hzb : (nth Z m == 0) = false := by simpa using hz0
        clear hz0 QN QD hX hZ I DU
        go_wp2
        go_ret
        exact ⟨m + 1, Z, X, rfl, HZ.out, by omega, A1.out, A2.out, HDU.out⟩
end Go.Proofs.Qxb6620824a
