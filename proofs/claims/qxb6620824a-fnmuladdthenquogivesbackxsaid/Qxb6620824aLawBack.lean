/-
  THE LAW FnMulAddThenQuoGivesBackX: its walk.
-/
import Derived.Test.Qxb6620824aMulAddC
import Derived.Test.Qxb6620824aQuoC
import Derived.Test.Qxb6620824aCmp
set_option linter.unusedVariables false
namespace Go.Proofs.Qxb6620824a
open Go.RowKit Plain

set_option maxHeartbeats 1000000 in
theorem bytes4' (p0 p1 p2 p3 : Option Addr) (n0 n1 n2 n3 c0 c1 c2 c3 : Nat) (h0 : n0 ≤ 9223372036854775807) (h1 : n1 ≤ 9223372036854775807) (h2 : n2 ≤ 9223372036854775807) (h3 : n3 ≤ 9223372036854775807) (w : World) :
    Calls Try.prog 21 #[.slice p0 n0 c0, .slice p1 n1 c1, .slice p2 n2 c2, .slice p3 n3 c3] w fun e w' => ∃ b, e = .returned (.bool b) ∧ w' = w := by
  go_enter Try.func21, Try.ntmps21
  go_wp2
  all_goals (go_ret; exact ⟨_, rfl, rfl⟩)

theorem Step.again' {B b : Nat} {w wr : World} {sz : Nat} {L : List Int} (h : Step B b w wr sz L) : Step b b wr wr wr.heap.size L := ⟨h.blk, Below.refl _ _, rfl, h.word⟩

/-- After MulAdd and make: the two rows. -/
theorem duo_made {b0 : Nat} {w1 w2 : World} {L : List Int} {sz n : Nat} (S : Step b0 b0 w1 w2 sz L) : Duo b0 w2.heap.size (w2.alloc (.cells (madeCells #[Value.int .u64 0] n) 39)) (w2.alloc (.cells (madeCells #[Value.int .u64 0] n) 39)) L (List.replicate n 0) :=
  ⟨S.blk.alloc _, Blk.made w2 n, Below.refl _ _, rfl, S.word, words_replicate n⟩

theorem back_close {w0 w1 w2 w4 : World} {ax ay : Option Addr} {nx ny m m1 : Nat} {x y a Zl Z' X' : List Int} {sz : Nat} {a' : Nat} (Sx : Sl w0.heap.size w0 ax nx x) (Sy : Sl w0.heap.size w0 ay ny y) (Nx : Norm x)
    (S1 : Step w0.heap.size w0.heap.size w0 w1 sz Z') (S2 : Step w0.heap.size w0.heap.size w1 w2 w1.heap.size Zl) (hv : val (Zl.take m) = val x * val y + val a) (h0 : 0 ≤ val a) (hlt : val a < val y)
    {Q : List Int} {c : Nat} (hl : Q.length = c) (ha : a' ≤ c) (hq : val (Q.take a') = pre Zl m / val y) (hN : Norm (Q.take a'))
    (DU : Duo w0.heap.size w2.heap.size (w2.alloc (.cells (madeCells #[Value.int .u64 0] m1) 39)) w4 X' Q) :
    a' = nx ∧ Sl w4.heap.size w4 (some ⟨w2.heap.size, 0, none⟩) nx x ∧ Sl w4.heap.size w4 ax nx x ∧ Below w0.heap.size w0 w4 := by
  have e : Q.take a' = x := by
    refine norm_inj (DU.wZ.take _) Sx.word hN Nx ?_
    rw [hq, ← pre_take, hv]
    refine div_eq_of _ _ _ (by omega) (by omega) ?_
    rw [Int.add_mul]; omega
  have hB : Below w0.heap.size w0 w4 := (S1.below.trans S2.below).trans (((Below.refl _ w2).alloc (by have := S2.blk.lt; omega) _).trans DU.below)
  have hlen : a' = nx := by
    have := congrArg List.length e
    rw [List.length_take, Sx.len] at this
    omega
  have hsz : w0.heap.size ≤ w4.heap.size := hB.size
  refine ⟨hlen, ?_, (Sx.below hB).mono hsz, hB⟩
  have := Sl.of_blk DU.bZ DU.bZ.lt DU.wZ a' (by omega)
  rw [e, hlen] at this
  exact this

set_option maxRecDepth 100000 in
set_option maxHeartbeats 2000000 in
theorem law_back_in {w : World} {az ax ay aa : Option Addr} {nz nx ny na : Nat} {z x y a : List Int} (cz cx cy ca : Nat)
    (Sz : Sl w.heap.size w az nz z) (Sx : Sl w.heap.size w ax nx x) (Sy : Sl w.heap.size w ay ny y) (Sa : Sl w.heap.size w aa na a)
    (hz : nz ≤ 65536) (hx : nx ≤ 512) (hy : ny ≤ 512) (ha : na ≤ 512) (hca : na ≤ ca) (hcy : ny ≤ cy) (hnil : aa = none → ca = 0) (Nx : Norm x) (Ny : Norm y) (Na : Norm a) (hy0 : 0 < ny) (hlt : val a < val y) :
    Calls Try.prog 6 #[.slice az nz cz, .slice ax nx cx, .slice ay ny cy, .slice aa na ca] w fun e w' => e = .returned (.bool true) ∧ Below w.heap.size w w' := by
  have bx := (normB_iff x).2 Nx
  have by' := (normB_iff y).2 Ny
  have ba := (normB_iff a).2 Na
  have hd : ((ny : Int) == 0) = false := by simp; omega
  have hcm : cmpZ (val a) (val y) = -1 := cmpZ_lt hlt
  have hna : na ≤ ny := by
    refine Nat.not_lt.1 fun h => ?_
    have := len_lt Sy.word Sa.word Na (by rw [Sy.len, Sa.len]; exact h)
    omega
  have Hlt : Hid (val a < val y) := hlt
  have Ha0 : Hid (0 ≤ val a) := (val_bound Sa.word).1
  clear hlt
  go_enter Try.func6, Try.ntmps6
  go_wp2_with (first | (go_at_call 21; refine (bytes4' _ _ _ _ _ _ _ _ _ _ _ _ (by omega) (by omega) (by omega) (by omega) _).mono ?_; rintro e w' ⟨b, rfl, hw⟩; rw [hw]; clear hw) | (go_at_call_of 9 (Value.slice ax nx cx); refine (isNormal cx Sx (by omega)).mono ?_; rintro e w' ⟨rfl, hw⟩; rw [hw]; clear hw) | (go_at_call_of 9 (Value.slice ay ny cy); refine (isNormal cy Sy (by omega)).mono ?_; rintro e w' ⟨rfl, hw⟩; rw [hw]; clear hw) | (go_at_call_of 9 (Value.slice aa na ca); refine (isNormal ca Sa (by omega)).mono ?_; rintro e w' ⟨rfl, hw⟩; rw [hw]; clear hw) | (go_at_call 22; refine (cmpNat ca cy Sa Sy Na Ny (by omega) (by omega)).mono ?_; rintro e w' ⟨rfl, q, hw⟩; rw [hw]; clear hw))
  · go_ret
    exact ⟨rfl, Below.refl _ _⟩
  · skip
    obtain ⟨w0, hw0⟩ : ∃ w0, w0 = w.drewN q := ⟨_, rfl⟩
    have Sz0 : Sl w0.heap.size w0 az nz z := by rw [hw0]; exact Sz.drewN q
    have Sx0 : Sl w0.heap.size w0 ax nx x := by rw [hw0]; exact Sx.drewN q
    have Sy0 : Sl w0.heap.size w0 ay ny y := by rw [hw0]; exact Sy.drewN q
    have Sa0 : Sl w0.heap.size w0 aa na a := by rw [hw0]; exact Sa.drewN q
    have B0 : Hid (Below w.heap.size w w0) := by show Below _ _ _; rw [hw0]; exact Below.drewN' (Below.refl _ _) q
    have Z0 : Hid (w0.heap.size = w.heap.size) := by show _ = _; rw [hw0]; rfl
    rw [← hw0, show (nx : Int) + (ny : Int) + 1 = ((nx + ny + 1 : Nat) : Int) by omega]
    clear hw0 Sz Sx Sy Sa hcm
    refine (bufferFrom cz (nx + ny + 1) Sz0 (by omega) (by omega)).mono ?_
    rintro e w1 ⟨s, Z, rfl, hs1, hs2, hZ, S1⟩
    have HZ : Hid _ := hZ
    have HS1 : Hid _ := S1
    clear hZ S1
    go_wp2_with fail
    refine (mulAdd (w := w1) (bz := w0.heap.size) (Z := Z) cx cy ca s s (Sx0.below HS1.out.below) (Sy0.below HS1.out.below) (Sa0.below HS1.out.below) (by omega) (by omega) (by omega) Nx Ny Na hca hnil HS1.out.again' HZ.out (by omega) (by omega) (by omega) (by omega)).mono ?_
    rintro e w2 ⟨m, Zl, rfl, hl2, hm2, hv2, hN2, S2⟩
    have hmk := make_run (m + 1) (by omega)
    rw [show ((m + 1 : Nat) : Int) = (m : Int) + 1 by omega] at hmk
    have HL2 : Hid _ := hl2
    have HV2 : Hid _ := hv2
    have HN2 : Hid _ := hN2
    have HS2 : Hid _ := S2
    clear hl2 hv2 hN2 S2
    go_wp2_with fail
    clear hmk
    have hbz : w0.heap.size < w2.heap.size := HS2.out.blk.lt
    have B3 : Hid (Below w0.heap.size w0 (w2.alloc (.cells (madeCells #[Value.int .u64 0] (m + 1)) 39))) := (HS1.out.below.trans HS2.out.below).trans ((Below.refl _ w2).alloc (by omega) _)
    refine (quo (w := w2.alloc (.cells (madeCells #[Value.int .u64 0] (m + 1)) 39)) (bx := w0.heap.size) (bz := w2.heap.size) (X := Zl) (Z := List.replicate (m + 1) 0) s cy (m + 1) (m + 1) hbz (Sy0.below B3.out) Ny hy0 (by omega) hcy (duo_made HS2.out) (by rw [HL2.out]; exact hm2) hm2 (by rw [HL2.out]; omega) (by omega) HN2.out List.length_replicate (by omega) (by omega) (by omega)).mono ?_
    rintro e w4 ⟨a', Q, X', rfl, hl4, ha4, hv4, hN4, D4⟩
    obtain ⟨e4, S5, S6, B6⟩ := back_close Sx0 Sy0 Nx HS1.out HS2.out HV2.out Ha0.out Hlt.out hl4 (by omega) hv4 hN4 D4
    obtain rfl : a' = nx := e4
    have HB6 : Hid _ := B6
    clear hl4 hv4 hN4 D4 B6
    go_wp2_with fail
    refine (eqWords_same (m + 1) cx S5 S6 (by omega)).mono ?_
    rintro e w5 ⟨rfl, qq, rfl⟩
    go_wp2
    go_ret
    exact ⟨rfl, Below.drewN' (B0.out.trans (by rw [← Z0.out]; exact HB6.out)) qq⟩

set_option maxHeartbeats 1000000 in
theorem law_back_out_z {w : World} {az ax ay aa : Option Addr} {nz nx ny na : Nat} {z x y a : List Int} (cz cx cy ca : Nat)
    (Sz : Sl w.heap.size w az nz z) (Sx : Sl w.heap.size w ax nx x) (Sy : Sl w.heap.size w ay ny y) (Sa : Sl w.heap.size w aa na a)
    (mz : nz ≤ 9223372036854775807) (mx : nx ≤ 9223372036854775807) (my : ny ≤ 9223372036854775807) (ma : na ≤ 9223372036854775807)
    (h : 65536 < nz) :
    Calls Try.prog 6 #[.slice az nz cz, .slice ax nx cx, .slice ay ny cy, .slice aa na ca] w fun e w' => e = .returned (.bool true) ∧ Below w.heap.size w w' := by
  go_enter Try.func6, Try.ntmps6
  go_wp2_with (first | (go_at_call 21; refine (bytes4' _ _ _ _ _ _ _ _ _ _ _ _ mz mx my ma _).mono ?_; rintro e w' ⟨b, rfl, hw⟩; rw [hw]; clear hw) | (go_at_call_of 9 (Value.slice ax nx cx); refine (isNormal cx Sx (by omega)).mono ?_; rintro e w' ⟨rfl, hw⟩; rw [hw]; clear hw) | (go_at_call_of 9 (Value.slice ay ny cy); refine (isNormal cy Sy (by omega)).mono ?_; rintro e w' ⟨rfl, hw⟩; rw [hw]; clear hw) | (go_at_call_of 9 (Value.slice aa na ca); refine (isNormal ca Sa (by omega)).mono ?_; rintro e w' ⟨rfl, hw⟩; rw [hw]; clear hw))
  all_goals (go_ret; exact ⟨rfl, by first | exact Below.refl _ _ | exact Below.drewN' (Below.refl _ _) _⟩)

set_option maxHeartbeats 1000000 in
theorem law_back_out_x {w : World} {az ax ay aa : Option Addr} {nz nx ny na : Nat} {z x y a : List Int} (cz cx cy ca : Nat)
    (Sz : Sl w.heap.size w az nz z) (Sx : Sl w.heap.size w ax nx x) (Sy : Sl w.heap.size w ay ny y) (Sa : Sl w.heap.size w aa na a)
    (mz : nz ≤ 9223372036854775807) (mx : nx ≤ 9223372036854775807) (my : ny ≤ 9223372036854775807) (ma : na ≤ 9223372036854775807)
    (hz : nz ≤ 65536) (h : 512 < nx) :
    Calls Try.prog 6 #[.slice az nz cz, .slice ax nx cx, .slice ay ny cy, .slice aa na ca] w fun e w' => e = .returned (.bool true) ∧ Below w.heap.size w w' := by
  go_enter Try.func6, Try.ntmps6
  go_wp2_with (first | (go_at_call 21; refine (bytes4' _ _ _ _ _ _ _ _ _ _ _ _ mz mx my ma _).mono ?_; rintro e w' ⟨b, rfl, hw⟩; rw [hw]; clear hw) | (go_at_call_of 9 (Value.slice ax nx cx); refine (isNormal cx Sx (by omega)).mono ?_; rintro e w' ⟨rfl, hw⟩; rw [hw]; clear hw) | (go_at_call_of 9 (Value.slice ay ny cy); refine (isNormal cy Sy (by omega)).mono ?_; rintro e w' ⟨rfl, hw⟩; rw [hw]; clear hw) | (go_at_call_of 9 (Value.slice aa na ca); refine (isNormal ca Sa (by omega)).mono ?_; rintro e w' ⟨rfl, hw⟩; rw [hw]; clear hw))
  all_goals (go_ret; exact ⟨rfl, by first | exact Below.refl _ _ | exact Below.drewN' (Below.refl _ _) _⟩)

set_option maxHeartbeats 1000000 in
theorem law_back_out_y {w : World} {az ax ay aa : Option Addr} {nz nx ny na : Nat} {z x y a : List Int} (cz cx cy ca : Nat)
    (Sz : Sl w.heap.size w az nz z) (Sx : Sl w.heap.size w ax nx x) (Sy : Sl w.heap.size w ay ny y) (Sa : Sl w.heap.size w aa na a)
    (mz : nz ≤ 9223372036854775807) (mx : nx ≤ 9223372036854775807) (my : ny ≤ 9223372036854775807) (ma : na ≤ 9223372036854775807)
    (hz : nz ≤ 65536) (hx : nx ≤ 512) (h : 512 < ny) :
    Calls Try.prog 6 #[.slice az nz cz, .slice ax nx cx, .slice ay ny cy, .slice aa na ca] w fun e w' => e = .returned (.bool true) ∧ Below w.heap.size w w' := by
  go_enter Try.func6, Try.ntmps6
  go_wp2_with (first | (go_at_call 21; refine (bytes4' _ _ _ _ _ _ _ _ _ _ _ _ mz mx my ma _).mono ?_; rintro e w' ⟨b, rfl, hw⟩; rw [hw]; clear hw) | (go_at_call_of 9 (Value.slice ax nx cx); refine (isNormal cx Sx (by omega)).mono ?_; rintro e w' ⟨rfl, hw⟩; rw [hw]; clear hw) | (go_at_call_of 9 (Value.slice ay ny cy); refine (isNormal cy Sy (by omega)).mono ?_; rintro e w' ⟨rfl, hw⟩; rw [hw]; clear hw) | (go_at_call_of 9 (Value.slice aa na ca); refine (isNormal ca Sa (by omega)).mono ?_; rintro e w' ⟨rfl, hw⟩; rw [hw]; clear hw))
  all_goals (go_ret; exact ⟨rfl, by first | exact Below.refl _ _ | exact Below.drewN' (Below.refl _ _) _⟩)

set_option maxHeartbeats 1000000 in
theorem law_back_out_a {w : World} {az ax ay aa : Option Addr} {nz nx ny na : Nat} {z x y a : List Int} (cz cx cy ca : Nat)
    (Sz : Sl w.heap.size w az nz z) (Sx : Sl w.heap.size w ax nx x) (Sy : Sl w.heap.size w ay ny y) (Sa : Sl w.heap.size w aa na a)
    (mz : nz ≤ 9223372036854775807) (mx : nx ≤ 9223372036854775807) (my : ny ≤ 9223372036854775807) (ma : na ≤ 9223372036854775807)
    (hz : nz ≤ 65536) (hx : nx ≤ 512) (hy : ny ≤ 512) (h : 512 < na) :
    Calls Try.prog 6 #[.slice az nz cz, .slice ax nx cx, .slice ay ny cy, .slice aa na ca] w fun e w' => e = .returned (.bool true) ∧ Below w.heap.size w w' := by
  go_enter Try.func6, Try.ntmps6
  go_wp2_with (first | (go_at_call 21; refine (bytes4' _ _ _ _ _ _ _ _ _ _ _ _ mz mx my ma _).mono ?_; rintro e w' ⟨b, rfl, hw⟩; rw [hw]; clear hw) | (go_at_call_of 9 (Value.slice ax nx cx); refine (isNormal cx Sx (by omega)).mono ?_; rintro e w' ⟨rfl, hw⟩; rw [hw]; clear hw) | (go_at_call_of 9 (Value.slice ay ny cy); refine (isNormal cy Sy (by omega)).mono ?_; rintro e w' ⟨rfl, hw⟩; rw [hw]; clear hw) | (go_at_call_of 9 (Value.slice aa na ca); refine (isNormal ca Sa (by omega)).mono ?_; rintro e w' ⟨rfl, hw⟩; rw [hw]; clear hw))
  all_goals (go_ret; exact ⟨rfl, by first | exact Below.refl _ _ | exact Below.drewN' (Below.refl _ _) _⟩)

set_option maxHeartbeats 1000000 in
theorem law_back_out_nx {w : World} {az ax ay aa : Option Addr} {nz nx ny na : Nat} {z x y a : List Int} (cz cx cy ca : Nat)
    (Sz : Sl w.heap.size w az nz z) (Sx : Sl w.heap.size w ax nx x) (Sy : Sl w.heap.size w ay ny y) (Sa : Sl w.heap.size w aa na a)
    (mz : nz ≤ 9223372036854775807) (mx : nx ≤ 9223372036854775807) (my : ny ≤ 9223372036854775807) (ma : na ≤ 9223372036854775807)
    (hz : nz ≤ 65536) (hx : nx ≤ 512) (hy : ny ≤ 512) (ha : na ≤ 512) (bx : normB x = false) :
    Calls Try.prog 6 #[.slice az nz cz, .slice ax nx cx, .slice ay ny cy, .slice aa na ca] w fun e w' => e = .returned (.bool true) ∧ Below w.heap.size w w' := by
  go_enter Try.func6, Try.ntmps6
  go_wp2_with (first | (go_at_call 21; refine (bytes4' _ _ _ _ _ _ _ _ _ _ _ _ mz mx my ma _).mono ?_; rintro e w' ⟨b, rfl, hw⟩; rw [hw]; clear hw) | (go_at_call_of 9 (Value.slice ax nx cx); refine (isNormal cx Sx (by omega)).mono ?_; rintro e w' ⟨rfl, hw⟩; rw [hw]; clear hw) | (go_at_call_of 9 (Value.slice ay ny cy); refine (isNormal cy Sy (by omega)).mono ?_; rintro e w' ⟨rfl, hw⟩; rw [hw]; clear hw) | (go_at_call_of 9 (Value.slice aa na ca); refine (isNormal ca Sa (by omega)).mono ?_; rintro e w' ⟨rfl, hw⟩; rw [hw]; clear hw))
  all_goals (go_ret; exact ⟨rfl, by first | exact Below.refl _ _ | exact Below.drewN' (Below.refl _ _) _⟩)

set_option maxHeartbeats 1000000 in
theorem law_back_out_ny {w : World} {az ax ay aa : Option Addr} {nz nx ny na : Nat} {z x y a : List Int} (cz cx cy ca : Nat)
    (Sz : Sl w.heap.size w az nz z) (Sx : Sl w.heap.size w ax nx x) (Sy : Sl w.heap.size w ay ny y) (Sa : Sl w.heap.size w aa na a)
    (mz : nz ≤ 9223372036854775807) (mx : nx ≤ 9223372036854775807) (my : ny ≤ 9223372036854775807) (ma : na ≤ 9223372036854775807)
    (hz : nz ≤ 65536) (hx : nx ≤ 512) (hy : ny ≤ 512) (ha : na ≤ 512) (bx : normB x = true) (by' : normB y = false) :
    Calls Try.prog 6 #[.slice az nz cz, .slice ax nx cx, .slice ay ny cy, .slice aa na ca] w fun e w' => e = .returned (.bool true) ∧ Below w.heap.size w w' := by
  go_enter Try.func6, Try.ntmps6
  go_wp2_with (first | (go_at_call 21; refine (bytes4' _ _ _ _ _ _ _ _ _ _ _ _ mz mx my ma _).mono ?_; rintro e w' ⟨b, rfl, hw⟩; rw [hw]; clear hw) | (go_at_call_of 9 (Value.slice ax nx cx); refine (isNormal cx Sx (by omega)).mono ?_; rintro e w' ⟨rfl, hw⟩; rw [hw]; clear hw) | (go_at_call_of 9 (Value.slice ay ny cy); refine (isNormal cy Sy (by omega)).mono ?_; rintro e w' ⟨rfl, hw⟩; rw [hw]; clear hw) | (go_at_call_of 9 (Value.slice aa na ca); refine (isNormal ca Sa (by omega)).mono ?_; rintro e w' ⟨rfl, hw⟩; rw [hw]; clear hw))
  all_goals (go_ret; exact ⟨rfl, by first | exact Below.refl _ _ | exact Below.drewN' (Below.refl _ _) _⟩)

set_option maxHeartbeats 1000000 in
theorem law_back_out_na {w : World} {az ax ay aa : Option Addr} {nz nx ny na : Nat} {z x y a : List Int} (cz cx cy ca : Nat)
    (Sz : Sl w.heap.size w az nz z) (Sx : Sl w.heap.size w ax nx x) (Sy : Sl w.heap.size w ay ny y) (Sa : Sl w.heap.size w aa na a)
    (mz : nz ≤ 9223372036854775807) (mx : nx ≤ 9223372036854775807) (my : ny ≤ 9223372036854775807) (ma : na ≤ 9223372036854775807)
    (hz : nz ≤ 65536) (hx : nx ≤ 512) (hy : ny ≤ 512) (ha : na ≤ 512) (bx : normB x = true) (by' : normB y = true) (ba : normB a = false) :
    Calls Try.prog 6 #[.slice az nz cz, .slice ax nx cx, .slice ay ny cy, .slice aa na ca] w fun e w' => e = .returned (.bool true) ∧ Below w.heap.size w w' := by
  go_enter Try.func6, Try.ntmps6
  go_wp2_with (first | (go_at_call 21; refine (bytes4' _ _ _ _ _ _ _ _ _ _ _ _ mz mx my ma _).mono ?_; rintro e w' ⟨b, rfl, hw⟩; rw [hw]; clear hw) | (go_at_call_of 9 (Value.slice ax nx cx); refine (isNormal cx Sx (by omega)).mono ?_; rintro e w' ⟨rfl, hw⟩; rw [hw]; clear hw) | (go_at_call_of 9 (Value.slice ay ny cy); refine (isNormal cy Sy (by omega)).mono ?_; rintro e w' ⟨rfl, hw⟩; rw [hw]; clear hw) | (go_at_call_of 9 (Value.slice aa na ca); refine (isNormal ca Sa (by omega)).mono ?_; rintro e w' ⟨rfl, hw⟩; rw [hw]; clear hw))
  all_goals (go_ret; exact ⟨rfl, by first | exact Below.refl _ _ | exact Below.drewN' (Below.refl _ _) _⟩)

set_option maxHeartbeats 1000000 in
theorem law_back_out_y0 {w : World} {az ax ay aa : Option Addr} {nz nx ny na : Nat} {z x y a : List Int} (cz cx cy ca : Nat)
    (Sz : Sl w.heap.size w az nz z) (Sx : Sl w.heap.size w ax nx x) (Sy : Sl w.heap.size w ay ny y) (Sa : Sl w.heap.size w aa na a)
    (mz : nz ≤ 9223372036854775807) (mx : nx ≤ 9223372036854775807) (my : ny ≤ 9223372036854775807) (ma : na ≤ 9223372036854775807)
    (hz : nz ≤ 65536) (hx : nx ≤ 512) (hy : ny ≤ 512) (ha : na ≤ 512) (bx : normB x = true) (by' : normB y = true) (ba : normB a = true) (hy0 : ny = 0) :
    Calls Try.prog 6 #[.slice az nz cz, .slice ax nx cx, .slice ay ny cy, .slice aa na ca] w fun e w' => e = .returned (.bool true) ∧ Below w.heap.size w w' := by
  have hd : ((ny : Int) == 0) = true := by simp; omega
  clear hy0
  go_enter Try.func6, Try.ntmps6
  go_wp2_with (first | (go_at_call 21; refine (bytes4' _ _ _ _ _ _ _ _ _ _ _ _ mz mx my ma _).mono ?_; rintro e w' ⟨b, rfl, hw⟩; rw [hw]; clear hw) | (go_at_call_of 9 (Value.slice ax nx cx); refine (isNormal cx Sx (by omega)).mono ?_; rintro e w' ⟨rfl, hw⟩; rw [hw]; clear hw) | (go_at_call_of 9 (Value.slice ay ny cy); refine (isNormal cy Sy (by omega)).mono ?_; rintro e w' ⟨rfl, hw⟩; rw [hw]; clear hw) | (go_at_call_of 9 (Value.slice aa na ca); refine (isNormal ca Sa (by omega)).mono ?_; rintro e w' ⟨rfl, hw⟩; rw [hw]; clear hw))
  all_goals (go_ret; exact ⟨rfl, by first | exact Below.refl _ _ | exact Below.drewN' (Below.refl _ _) _⟩)

set_option maxHeartbeats 1000000 in
theorem law_back_out_ge {w : World} {az ax ay aa : Option Addr} {nz nx ny na : Nat} {z x y a : List Int} (cz cx cy ca : Nat)
    (Sz : Sl w.heap.size w az nz z) (Sx : Sl w.heap.size w ax nx x) (Sy : Sl w.heap.size w ay ny y) (Sa : Sl w.heap.size w aa na a)
    (mz : nz ≤ 9223372036854775807) (mx : nx ≤ 9223372036854775807) (my : ny ≤ 9223372036854775807) (ma : na ≤ 9223372036854775807)
    (hz : nz ≤ 65536) (hx : nx ≤ 512) (hy : ny ≤ 512) (ha : na ≤ 512) (bx : normB x = true) (by' : normB y = true) (ba : normB a = true) (Ny : Norm y) (Na : Norm a) (hy0 : 0 < ny) (hge : val y ≤ val a) :
    Calls Try.prog 6 #[.slice az nz cz, .slice ax nx cx, .slice ay ny cy, .slice aa na ca] w fun e w' => e = .returned (.bool true) ∧ Below w.heap.size w w' := by
  have hd : ((ny : Int) == 0) = false := by simp; omega
  have hcm : 0 ≤ cmpZ (val a) (val y) := by unfold cmpZ; rw [if_neg (by omega)]; split <;> decide
  clear hge
  go_enter Try.func6, Try.ntmps6
  go_wp2_with (first | (go_at_call 21; refine (bytes4' _ _ _ _ _ _ _ _ _ _ _ _ mz mx my ma _).mono ?_; rintro e w' ⟨b, rfl, hw⟩; rw [hw]; clear hw) | (go_at_call_of 9 (Value.slice ax nx cx); refine (isNormal cx Sx (by omega)).mono ?_; rintro e w' ⟨rfl, hw⟩; rw [hw]; clear hw) | (go_at_call_of 9 (Value.slice ay ny cy); refine (isNormal cy Sy (by omega)).mono ?_; rintro e w' ⟨rfl, hw⟩; rw [hw]; clear hw) | (go_at_call_of 9 (Value.slice aa na ca); refine (isNormal ca Sa (by omega)).mono ?_; rintro e w' ⟨rfl, hw⟩; rw [hw]; clear hw) | (go_at_call 22; refine (cmpNat ca cy Sa Sy Na Ny (by omega) (by omega)).mono ?_; rintro e w' ⟨rfl, q, hw⟩; rw [hw]; clear hw))
  all_goals (go_ret; exact ⟨rfl, by first | exact Below.refl _ _ | exact Below.drewN' (Below.refl _ _) _⟩)

theorem law_back {w : World} {az ax ay aa : Option Addr} {nz nx ny na : Nat} {z x y a : List Int} (cz cx cy ca : Nat)
    (Sz : Sl w.heap.size w az nz z) (Sx : Sl w.heap.size w ax nx x) (Sy : Sl w.heap.size w ay ny y) (Sa : Sl w.heap.size w aa na a)
    (mz : nz ≤ 9223372036854775807) (mx : nx ≤ 9223372036854775807) (my : ny ≤ 9223372036854775807) (ma : na ≤ 9223372036854775807)
    (hca : na ≤ ca) (hcy : ny ≤ cy) (hnil : aa = none → ca = 0) :
    Calls Try.prog 6 #[.slice az nz cz, .slice ax nx cx, .slice ay ny cy, .slice aa na ca] w fun e w' => e = .returned (.bool true) ∧ Below w.heap.size w w' := by
  by_cases hz : nz ≤ 65536
  · by_cases hx : nx ≤ 512
    · by_cases hy : ny ≤ 512
      · by_cases ha : na ≤ 512
        · cases bx : normB x with
          | false => exact law_back_out_nx cz cx cy ca Sz Sx Sy Sa mz mx my ma hz hx hy ha bx
          | true =>
            cases by' : normB y with
            | false => exact law_back_out_ny cz cx cy ca Sz Sx Sy Sa mz mx my ma hz hx hy ha bx by'
            | true =>
              cases ba : normB a with
              | false => exact law_back_out_na cz cx cy ca Sz Sx Sy Sa mz mx my ma hz hx hy ha bx by' ba
              | true =>
                by_cases hy0 : ny = 0
                · exact law_back_out_y0 cz cx cy ca Sz Sx Sy Sa mz mx my ma hz hx hy ha bx by' ba hy0
                · by_cases hlt : val a < val y
                  · exact law_back_in cz cx cy ca Sz Sx Sy Sa hz hx hy ha hca hcy hnil ((normB_iff x).1 bx) ((normB_iff y).1 by') ((normB_iff a).1 ba) (by omega) hlt
                  · exact law_back_out_ge cz cx cy ca Sz Sx Sy Sa mz mx my ma hz hx hy ha bx by' ba ((normB_iff y).1 by') ((normB_iff a).1 ba) (by omega) (by omega)
        · exact law_back_out_a cz cx cy ca Sz Sx Sy Sa mz mx my ma hz hx hy (by omega)
      · exact law_back_out_y cz cx cy ca Sz Sx Sy Sa mz mx my ma hz hx (by omega)
    · exact law_back_out_x cz cx cy ca Sz Sx Sy Sa mz mx my ma hz (by omega)
  · exact law_back_out_z cz cx cy ca Sz Sx Sy Sa mz mx my ma (by omega)

end Go.Proofs.Qxb6620824a
