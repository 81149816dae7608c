/-
  THE LAW FnQuoMatchesBitByBitDivision: its walk.
-/
import Derived.Test.Qxb6620824aModelQuo
import Derived.Test.Qxb6620824aQuoC
import Derived.Test.Qxb6620824aSmall2
set_option linter.unusedVariables false
namespace Go.Proofs.Qxb6620824a
open Go.RowKit Plain

set_option maxHeartbeats 1000000 in
theorem bytes3b (p0 p1 p2 : Option Addr) (n0 n1 n2 c0 c1 c2 : Nat) (h0 : n0 ≤ 9223372036854775807) (h1 : n1 ≤ 9223372036854775807) (h2 : n2 ≤ 9223372036854775807) (w : World) :
    Calls Try.prog 8 #[.slice p0 n0 c0, .slice p1 n1 c1, .slice p2 n2 c2] w fun e w' => ∃ b, e = .returned (.bool b) ∧ w' = w := by
  go_enter Try.func8, Try.ntmps8
  go_wp2
  all_goals (go_ret; exact ⟨_, rfl, rfl⟩)

/-- After cloneWords and bufferFrom: the two rows. -/
theorem duo_twoB {w w1 w2 : World} {x Z : List Int} (S1 : Step w.heap.size w.heap.size w w1 (w.heap.size + 1) x) (S2 : Step w1.heap.size w1.heap.size w1 w2 (w1.heap.size + 1) Z) : Duo w.heap.size w1.heap.size w2 w2 x Z :=
  ⟨S1.blk.below S2.below S1.blk.lt, S2.blk, Below.refl _ _, rfl, S1.word, S2.word⟩

theorem below_twoB {w w1 w2 : World} {x Z : List Int} (S1 : Step w.heap.size w.heap.size w w1 (w.heap.size + 1) x) (S2 : Step w1.heap.size w1.heap.size w1 w2 (w1.heap.size + 1) Z) : Below w.heap.size w w2 :=
  S1.below.trans (S2.below.mono (Nat.le_of_lt S1.blk.lt))

set_option maxRecDepth 100000 in
set_option maxHeartbeats 2000000 in
theorem law_bits_in {w : World} {az ax ay : Option Addr} {nz nx ny : Nat} {z x y : List Int} (cz cx cy : Nat)
    (Sz : Sl w.heap.size w az nz z) (Sx : Sl w.heap.size w ax nx x) (Sy : Sl w.heap.size w ay ny y)
    (hz : nz ≤ 65536) (hx : nx ≤ 512) (hy : ny ≤ 512) (hcy : ny ≤ cy) (hnil : ay = none → cy = 0) (Nx : Norm x) (Ny : Norm y) (hy0 : 0 < ny) :
    Calls Try.prog 3 #[.slice az nz cz, .slice ax nx cx, .slice ay ny cy] w fun e w' => e = .returned (.bool true) ∧ Below w.heap.size w w' := by
  have bx := (normB_iff x).2 Nx
  have by' := (normB_iff y).2 Ny
  have hd : ((ny : Int) == 0) = false := by simp; omega
  have HYp : Hid (0 < val y) := by
    have h := norm_ge Sy.word Ny (by rw [Sy.len]; exact hy0)
    have := pw_pos (y.length - 1)
    show 0 < val y
    omega
  have HXp : Hid (0 ≤ val x) := (val_bound Sx.word).1
  go_enter Try.func3, Try.ntmps3
  go_wp2_with (first | (go_at_call 8; refine (bytes3b _ _ _ _ _ _ _ _ _ (by omega) (by omega) (by omega) _).mono ?_; rintro e w' ⟨b, rfl, hw⟩; rw [hw]; clear hw) | (go_at_call_of 9 (Value.slice ax nx cx); refine (isNormal cx Sx (by omega)).mono ?_; rintro e w' ⟨rfl, hw⟩; rw [hw]; clear hw) | (go_at_call_of 9 (Value.slice ay ny cy); refine (isNormal cy Sy (by omega)).mono ?_; rintro e w' ⟨rfl, hw⟩; rw [hw]; clear hw))
  · go_ret
    exact ⟨rfl, Below.refl _ _⟩
  · skip
    refine (modelQuo cx cy Sx Sy (by omega) (by omega) HYp.out).mono ?_
    rintro e w0 ⟨mm, L, rfl, hml, hvL, hNL, hBL, hWL, BL⟩
    have Sz0 := (Sz.below BL).mono BL.size
    have Sx0 := (Sx.below BL).mono BL.size
    have Sy0 := (Sy.below BL).mono BL.size
    have SL0 := Sl.of_blk hBL hBL.lt hWL mm hml
    have HBL : Hid (Below w.heap.size w w0) := BL
    have HvL : Hid _ := hvL
    have HNL : Hid _ := hNL
    have HX0 : Hid (x.length = nx) := Sx.len
    clear hvL hNL hBL hWL BL Sz Sx Sy hml
    obtain ⟨b0, hb0⟩ : ∃ b0, b0 = w.heap.size := ⟨_, rfl⟩
    have Hb0 : Hid (b0 = w.heap.size) := hb0
    rw [← hb0] at SL0 ⊢
    clear hb0
    go_wp2_with fail
    refine (cloneWords cx Sx0 (by omega)).mono ?_
    rintro e w1 ⟨rfl, S1⟩
    have HS1 : Hid _ := S1
    clear S1
    go_wp2_with fail
    rw [show (nx : Int) + 1 = ((nx + 1 : Nat) : Int) by omega]
    refine (bufferFrom cz (nx + 1) ((Sz0.below HS1.out.below).mono (Nat.le_of_lt HS1.out.blk.lt)) (by omega) (by omega)).mono ?_
    rintro e w2 ⟨s, Z, rfl, hs1, hs2, hZ, S2⟩
    have HZ : Hid _ := hZ
    have HS2 : Hid _ := S2
    clear hZ S2
    go_wp2_with fail
    refine (quo (w := w2) (bx := w0.heap.size) (bz := w1.heap.size) (X := x) (Z := Z) nx cy s s HS1.out.blk.lt (Sy0.below (below_twoB HS1.out HS2.out)) Ny hy0 (by omega) hcy (duo_twoB HS1.out HS2.out) (by rw [HX0.out]; omega) (Nat.le_refl _) (by rw [HX0.out]; omega) (by omega) (by rw [show x.take nx = x from List.take_of_length_le (by rw [HX0.out]; omega)]; exact Nx) HZ.out (by omega) (by omega) (by omega)).mono ?_
    rintro e w3 ⟨a, Q, X', rfl, hQl, ha, hv, hN, D3⟩
    have B3 : Hid (Below w0.heap.size w0 w3) := (below_twoB HS1.out HS2.out).trans D3.below
    have Sq := Sl.of_blk D3.bZ D3.bZ.lt D3.wZ a (by omega)
    have SL3 := (SL0.below B3.out).mono B3.out.size
    have e1 : pre x nx = val x := by rw [← HX0.out]; exact pre_all x
    rw [e1] at hv
    have eq : Q.take a = L.take mm := norm_inj (D3.wZ.take a) SL0.word hN HNL.out (by rw [hv, HvL.out])
    have elen : a = mm := by
      have h1 := Sq.len
      have h2 := SL0.len
      rw [eq] at h1
      omega
    rw [eq] at Sq
    subst elen
    have BB : Hid (Below w.heap.size w w3) := HBL.out.trans (B3.out.mono HBL.out.size)
    clear hv hN D3 HS1 HS2 HZ hQl e1 eq B3 SL0 Sx0 Sy0 Sz0 HBL
    obtain ⟨b1, hb1⟩ : ∃ b1, b1 = w1.heap.size := ⟨_, rfl⟩
    rw [← hb1] at Sq ⊢
    clear hb1
    go_wp2_with fail
    refine (eqWords_same s nx Sq SL3 (by omega)).mono ?_
    rintro e w5 ⟨rfl, qq, rfl⟩
    go_wp2
    go_ret
    exact ⟨rfl, Below.drewN' BB.out qq⟩

set_option maxHeartbeats 1000000 in
theorem law_bits_out_z {w : World} {az ax ay : Option Addr} {nz nx ny : Nat} {z x y : List Int} (cz cx cy : Nat)
    (Sz : Sl w.heap.size w az nz z) (Sx : Sl w.heap.size w ax nx x) (Sy : Sl w.heap.size w ay ny y)
    (mz : nz ≤ 9223372036854775807) (mx : nx ≤ 9223372036854775807) (my : ny ≤ 9223372036854775807)
    (h : 65536 < nz) :
    Calls Try.prog 3 #[.slice az nz cz, .slice ax nx cx, .slice ay ny cy] w fun e w' => e = .returned (.bool true) ∧ Below w.heap.size w w' := by
  go_enter Try.func3, Try.ntmps3
  go_wp2_with (first | (go_at_call 8; refine (bytes3b _ _ _ _ _ _ _ _ _ mz mx my _).mono ?_; rintro e w' ⟨b, rfl, hw⟩; rw [hw]; clear hw) | (go_at_call_of 9 (Value.slice ax nx cx); refine (isNormal cx Sx (by omega)).mono ?_; rintro e w' ⟨rfl, hw⟩; rw [hw]; clear hw) | (go_at_call_of 9 (Value.slice ay ny cy); refine (isNormal cy Sy (by omega)).mono ?_; rintro e w' ⟨rfl, hw⟩; rw [hw]; clear hw))
  all_goals (go_ret; exact ⟨rfl, by first | exact Below.refl _ _ | exact Below.drewN' (Below.refl _ _) _⟩)

set_option maxHeartbeats 1000000 in
theorem law_bits_out_x {w : World} {az ax ay : Option Addr} {nz nx ny : Nat} {z x y : List Int} (cz cx cy : Nat)
    (Sz : Sl w.heap.size w az nz z) (Sx : Sl w.heap.size w ax nx x) (Sy : Sl w.heap.size w ay ny y)
    (mz : nz ≤ 9223372036854775807) (mx : nx ≤ 9223372036854775807) (my : ny ≤ 9223372036854775807)
    (hz : nz ≤ 65536) (h : 512 < nx) :
    Calls Try.prog 3 #[.slice az nz cz, .slice ax nx cx, .slice ay ny cy] w fun e w' => e = .returned (.bool true) ∧ Below w.heap.size w w' := by
  go_enter Try.func3, Try.ntmps3
  go_wp2_with (first | (go_at_call 8; refine (bytes3b _ _ _ _ _ _ _ _ _ mz mx my _).mono ?_; rintro e w' ⟨b, rfl, hw⟩; rw [hw]; clear hw) | (go_at_call_of 9 (Value.slice ax nx cx); refine (isNormal cx Sx (by omega)).mono ?_; rintro e w' ⟨rfl, hw⟩; rw [hw]; clear hw) | (go_at_call_of 9 (Value.slice ay ny cy); refine (isNormal cy Sy (by omega)).mono ?_; rintro e w' ⟨rfl, hw⟩; rw [hw]; clear hw))
  all_goals (go_ret; exact ⟨rfl, by first | exact Below.refl _ _ | exact Below.drewN' (Below.refl _ _) _⟩)

set_option maxHeartbeats 1000000 in
theorem law_bits_out_y {w : World} {az ax ay : Option Addr} {nz nx ny : Nat} {z x y : List Int} (cz cx cy : Nat)
    (Sz : Sl w.heap.size w az nz z) (Sx : Sl w.heap.size w ax nx x) (Sy : Sl w.heap.size w ay ny y)
    (mz : nz ≤ 9223372036854775807) (mx : nx ≤ 9223372036854775807) (my : ny ≤ 9223372036854775807)
    (hz : nz ≤ 65536) (hx : nx ≤ 512) (h : 512 < ny) :
    Calls Try.prog 3 #[.slice az nz cz, .slice ax nx cx, .slice ay ny cy] w fun e w' => e = .returned (.bool true) ∧ Below w.heap.size w w' := by
  go_enter Try.func3, Try.ntmps3
  go_wp2_with (first | (go_at_call 8; refine (bytes3b _ _ _ _ _ _ _ _ _ mz mx my _).mono ?_; rintro e w' ⟨b, rfl, hw⟩; rw [hw]; clear hw) | (go_at_call_of 9 (Value.slice ax nx cx); refine (isNormal cx Sx (by omega)).mono ?_; rintro e w' ⟨rfl, hw⟩; rw [hw]; clear hw) | (go_at_call_of 9 (Value.slice ay ny cy); refine (isNormal cy Sy (by omega)).mono ?_; rintro e w' ⟨rfl, hw⟩; rw [hw]; clear hw))
  all_goals (go_ret; exact ⟨rfl, by first | exact Below.refl _ _ | exact Below.drewN' (Below.refl _ _) _⟩)

set_option maxHeartbeats 1000000 in
theorem law_bits_out_y0 {w : World} {az ax ay : Option Addr} {nz nx ny : Nat} {z x y : List Int} (cz cx cy : Nat)
    (Sz : Sl w.heap.size w az nz z) (Sx : Sl w.heap.size w ax nx x) (Sy : Sl w.heap.size w ay ny y)
    (mz : nz ≤ 9223372036854775807) (mx : nx ≤ 9223372036854775807) (my : ny ≤ 9223372036854775807)
    (hz : nz ≤ 65536) (hx : nx ≤ 512) (hy : ny ≤ 512) (hy0 : ny = 0) :
    Calls Try.prog 3 #[.slice az nz cz, .slice ax nx cx, .slice ay ny cy] w fun e w' => e = .returned (.bool true) ∧ Below w.heap.size w w' := by
  have hd : ((ny : Int) == 0) = true := by simp; omega
  clear hy0
  go_enter Try.func3, Try.ntmps3
  go_wp2_with (first | (go_at_call 8; refine (bytes3b _ _ _ _ _ _ _ _ _ mz mx my _).mono ?_; rintro e w' ⟨b, rfl, hw⟩; rw [hw]; clear hw) | (go_at_call_of 9 (Value.slice ax nx cx); refine (isNormal cx Sx (by omega)).mono ?_; rintro e w' ⟨rfl, hw⟩; rw [hw]; clear hw) | (go_at_call_of 9 (Value.slice ay ny cy); refine (isNormal cy Sy (by omega)).mono ?_; rintro e w' ⟨rfl, hw⟩; rw [hw]; clear hw))
  all_goals (go_ret; exact ⟨rfl, by first | exact Below.refl _ _ | exact Below.drewN' (Below.refl _ _) _⟩)

set_option maxHeartbeats 1000000 in
theorem law_bits_out_ny {w : World} {az ax ay : Option Addr} {nz nx ny : Nat} {z x y : List Int} (cz cx cy : Nat)
    (Sz : Sl w.heap.size w az nz z) (Sx : Sl w.heap.size w ax nx x) (Sy : Sl w.heap.size w ay ny y)
    (mz : nz ≤ 9223372036854775807) (mx : nx ≤ 9223372036854775807) (my : ny ≤ 9223372036854775807)
    (hz : nz ≤ 65536) (hx : nx ≤ 512) (hy : ny ≤ 512) (hy0 : 0 < ny) (by' : normB y = false) :
    Calls Try.prog 3 #[.slice az nz cz, .slice ax nx cx, .slice ay ny cy] w fun e w' => e = .returned (.bool true) ∧ Below w.heap.size w w' := by
  have hd : ((ny : Int) == 0) = false := by simp; omega
  go_enter Try.func3, Try.ntmps3
  go_wp2_with (first | (go_at_call 8; refine (bytes3b _ _ _ _ _ _ _ _ _ mz mx my _).mono ?_; rintro e w' ⟨b, rfl, hw⟩; rw [hw]; clear hw) | (go_at_call_of 9 (Value.slice ax nx cx); refine (isNormal cx Sx (by omega)).mono ?_; rintro e w' ⟨rfl, hw⟩; rw [hw]; clear hw) | (go_at_call_of 9 (Value.slice ay ny cy); refine (isNormal cy Sy (by omega)).mono ?_; rintro e w' ⟨rfl, hw⟩; rw [hw]; clear hw))
  all_goals (go_ret; exact ⟨rfl, by first | exact Below.refl _ _ | exact Below.drewN' (Below.refl _ _) _⟩)

set_option maxHeartbeats 1000000 in
theorem law_bits_out_nx {w : World} {az ax ay : Option Addr} {nz nx ny : Nat} {z x y : List Int} (cz cx cy : Nat)
    (Sz : Sl w.heap.size w az nz z) (Sx : Sl w.heap.size w ax nx x) (Sy : Sl w.heap.size w ay ny y)
    (mz : nz ≤ 9223372036854775807) (mx : nx ≤ 9223372036854775807) (my : ny ≤ 9223372036854775807)
    (hz : nz ≤ 65536) (hx : nx ≤ 512) (hy : ny ≤ 512) (hy0 : 0 < ny) (by' : normB y = true) (bx : normB x = false) :
    Calls Try.prog 3 #[.slice az nz cz, .slice ax nx cx, .slice ay ny cy] w fun e w' => e = .returned (.bool true) ∧ Below w.heap.size w w' := by
  have hd : ((ny : Int) == 0) = false := by simp; omega
  go_enter Try.func3, Try.ntmps3
  go_wp2_with (first | (go_at_call 8; refine (bytes3b _ _ _ _ _ _ _ _ _ mz mx my _).mono ?_; rintro e w' ⟨b, rfl, hw⟩; rw [hw]; clear hw) | (go_at_call_of 9 (Value.slice ax nx cx); refine (isNormal cx Sx (by omega)).mono ?_; rintro e w' ⟨rfl, hw⟩; rw [hw]; clear hw) | (go_at_call_of 9 (Value.slice ay ny cy); refine (isNormal cy Sy (by omega)).mono ?_; rintro e w' ⟨rfl, hw⟩; rw [hw]; clear hw))
  all_goals (go_ret; exact ⟨rfl, by first | exact Below.refl _ _ | exact Below.drewN' (Below.refl _ _) _⟩)

theorem law_bits {w : World} {az ax ay : Option Addr} {nz nx ny : Nat} {z x y : List Int} (cz cx cy : Nat)
    (Sz : Sl w.heap.size w az nz z) (Sx : Sl w.heap.size w ax nx x) (Sy : Sl w.heap.size w ay ny y)
    (mz : nz ≤ 9223372036854775807) (mx : nx ≤ 9223372036854775807) (my : ny ≤ 9223372036854775807)
    (hcy : ny ≤ cy) (hnil : ay = none → cy = 0) :
    Calls Try.prog 3 #[.slice az nz cz, .slice ax nx cx, .slice ay ny cy] w fun e w' => e = .returned (.bool true) ∧ Below w.heap.size w w' := by
  by_cases hz : nz ≤ 65536
  · by_cases hx : nx ≤ 512
    · by_cases hy : ny ≤ 512
      · by_cases hy0 : ny = 0
        · exact law_bits_out_y0 cz cx cy Sz Sx Sy mz mx my hz hx hy hy0
        · cases by' : normB y with
          | false => exact law_bits_out_ny cz cx cy Sz Sx Sy mz mx my hz hx hy (by omega) by'
          | true =>
            cases bx : normB x with
            | false => exact law_bits_out_nx cz cx cy Sz Sx Sy mz mx my hz hx hy (by omega) by' bx
            | true => exact law_bits_in cz cx cy Sz Sx Sy hz hx hy hcy hnil ((normB_iff x).1 bx) ((normB_iff y).1 by') (by omega)
      · exact law_bits_out_y cz cx cy Sz Sx Sy mz mx my hz hx (by omega)
    · exact law_bits_out_x cz cx cy Sz Sx Sy mz mx my hz (by omega)
  · exact law_bits_out_z cz cx cy Sz Sx Sy mz mx my (by omega)

end Go.Proofs.Qxb6620824a
