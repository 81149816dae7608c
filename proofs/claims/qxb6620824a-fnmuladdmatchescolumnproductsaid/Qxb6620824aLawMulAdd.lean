/-
  THE LAW FnMulAddMatchesColumnProduct: its walk.
-/
import Derived.Test.Qxb6620824aMulAddC
set_option linter.unusedVariables false
namespace Go.Proofs.Qxb6620824a
open Go.RowKit Plain

set_option maxHeartbeats 1000000 in
theorem bytes4 (p0 p1 p2 p3 : Option Addr) (n0 n1 n2 n3 c0 c1 c2 c3 : Nat) (h0 : n0 ≤ 9223372036854775807) (h1 : n1 ≤ 9223372036854775807) (h2 : n2 ≤ 9223372036854775807) (h3 : n3 ≤ 9223372036854775807) (w : World) :
    Calls Try.prog 18 #[.slice p0 n0 c0, .slice p1 n1 c1, .slice p2 n2 c2, .slice p3 n3 c3] w fun e w' => ∃ b, e = .returned (.bool b) ∧ w' = w := by
  go_enter Try.func18, Try.ntmps18
  go_wp2
  all_goals (go_ret; exact ⟨_, rfl, rfl⟩)

/-- What modelMulAdd has left. -/
structure Tale (w w1 : World) (x y a : List Int) (m : Nat) (L : List Int) : Prop where
  le : m ≤ L.length
  v : val (L.take m) = val x * val y + val a
  n : Norm (L.take m)
  st : Step w.heap.size w.heap.size w w1 (w.heap.size + 1) L

theorem Step.again {B b : Nat} {w wr : World} {sz : Nat} {L : List Int} (h : Step B b w wr sz L) : Step b b wr wr wr.heap.size L := ⟨h.blk, Below.refl _ _, rfl, h.word⟩

theorem Tale.lift {w w1 w2 : World} {x y a L Z : List Int} {m sz : Nat} (T : Tale w w1 x y a m L) {p : Option Addr} {n : Nat} {l : List Int} (S : Sl w.heap.size w p n l) (S2 : Step w1.heap.size w1.heap.size w1 w2 sz Z) : Sl w1.heap.size w2 p n l :=
  ((S.below T.st.below).mono (by rw [T.st.size]; omega)).below S2.below

theorem Tale.close {w w1 w2 w3 : World} {x y a L Z Z' : List Int} {m m' sz s : Nat} (T : Tale w w1 x y a m L) (S2 : Step w1.heap.size w1.heap.size w1 w2 sz Z) (hl : Z'.length = s) (hm' : m' ≤ s) (hv : val (Z'.take m') = val x * val y + val a) (hN : Norm (Z'.take m'))
    (S3 : Step w1.heap.size w1.heap.size w2 w3 w2.heap.size Z') : m' = m ∧ Sl w3.heap.size w3 (some ⟨w1.heap.size, 0, none⟩) m' (Z'.take m') ∧ Sl w3.heap.size w3 (some ⟨w.heap.size, 0, none⟩) m' (Z'.take m') ∧ Below w.heap.size w w3 := by
  have e : Z'.take m' = L.take m := norm_inj (S3.word.take _) (T.st.word.take _) hN T.n (by rw [hv, T.v])
  have hmm : m' = m := by
    have := congrArg List.length e
    rw [List.length_take, List.length_take] at this
    have := T.le
    omega
  have hb : Below w1.heap.size w1 w3 := S2.below.trans S3.below
  have hB : Below w.heap.size w w3 := T.st.below.trans (hb.mono (by rw [T.st.size]; omega))
  have hsz : w.heap.size < w1.heap.size := by rw [T.st.size]; omega
  have hlt3 := S3.blk.lt
  have hbl : Blk w3 w.heap.size L := T.st.blk.below hb hsz
  refine ⟨hmm, Sl.of_blk S3.blk hlt3 S3.word m' (by omega), ?_, hB⟩
  rw [e, hmm]
  exact Sl.of_blk hbl (by omega) T.st.word m T.le

set_option maxHeartbeats 1000000 in
theorem law_mul_in {w : World} {az ax ay aa : Option Addr} {nz nx ny na : Nat} {z x y a : List Int} (cz cx cy ca : Nat)
    (Sz : Sl w.heap.size w az nz z) (Sx : Sl w.heap.size w ax nx x) (Sy : Sl w.heap.size w ay ny y) (Sa : Sl w.heap.size w aa na a)
    (hz : nz ≤ 65536) (hx : nx ≤ 512) (hy : ny ≤ 512) (ha : na ≤ 512) (hca : na ≤ ca) (hnil : aa = none → ca = 0) (Nx : Norm x) (Ny : Norm y) (Na : Norm a) :
    Calls Try.prog 5 #[.slice az nz cz, .slice ax nx cx, .slice ay ny cy, .slice aa na ca] w fun e w' => e = .returned (.bool true) ∧ Below w.heap.size w w' := by
  have bx := (normB_iff x).2 Nx
  have by' := (normB_iff y).2 Ny
  have ba := (normB_iff a).2 Na
  go_enter Try.func5, Try.ntmps5
  go_wp2_with (first | (go_at_call 18; refine (bytes4 _ _ _ _ _ _ _ _ _ _ _ _ (by omega) (by omega) (by omega) (by omega) _).mono ?_; rintro e w' ⟨b, rfl, hw⟩; rw [hw]; clear hw) | (go_at_call_of 9 (Value.slice ax nx cx); refine (isNormal cx Sx (by omega)).mono ?_; rintro e w' ⟨rfl, hw⟩; rw [hw]; clear hw) | (go_at_call_of 9 (Value.slice ay ny cy); refine (isNormal cy Sy (by omega)).mono ?_; rintro e w' ⟨rfl, hw⟩; rw [hw]; clear hw) | (go_at_call_of 9 (Value.slice aa na ca); refine (isNormal ca Sa (by omega)).mono ?_; rintro e w' ⟨rfl, hw⟩; rw [hw]; clear hw))
  · go_ret
    exact ⟨rfl, Below.refl _ _⟩
  · skip
    refine (modelMulAdd cx cy ca Sx Sy Sa (by omega) (by omega) (by omega)).mono ?_
    rintro e w1 ⟨m, c, L, rfl, hm, hv, hN, S1⟩
    have T : Hid (Tale w w1 x y a m L) := ⟨hm, hv, hN, S1⟩
    have Sz1 : Hid _ := (Sz.below S1.below).mono (show w.heap.size ≤ w1.heap.size by rw [S1.size]; omega)
    clear hm hv hN S1
    go_wp2_with fail
    rw [show (na : Int) + 1 = ((na + 1 : Nat) : Int) by omega]
    refine (bufferFrom cz (na + 1) Sz1.out (by omega) (by omega)).mono ?_
    rintro e w2 ⟨s, Z, rfl, hs1, hs2, hZ, S2⟩
    have HZ : Hid _ := hZ
    have HS2 : Hid _ := S2
    clear hZ S2
    go_wp2_with fail
    refine (mulAdd (w := w2) (bz := w1.heap.size) (Z := Z) cx cy ca s s (T.out.lift Sx HS2.out) (T.out.lift Sy HS2.out) (T.out.lift Sa HS2.out) (by omega) (by omega) (by omega) Nx Ny Na hca hnil (HS2.out.again) HZ.out (by omega) (by omega) (by omega) (by omega)).mono ?_
    rintro e w3 ⟨m', Z', rfl, hl', hm', hv', hN', S3⟩
    obtain ⟨e1, S4, S5, B5⟩ := T.out.close HS2.out hl' hm' hv' hN' S3
    obtain rfl : m' = m := e1
    clear hl' hv' hN' S3
    go_wp2_with fail
    refine (eqWords_same s c S4 S5 (by omega)).mono ?_
    rintro e w4 ⟨rfl, q, rfl⟩
    go_wp2
    go_ret
    exact ⟨rfl, Below.drewN' B5 q⟩
  · skip
    refine (modelMulAdd cx cy ca Sx Sy Sa (by omega) (by omega) (by omega)).mono ?_
    rintro e w1 ⟨m, c, L, rfl, hm, hv, hN, S1⟩
    have T : Hid (Tale w w1 x y a m L) := ⟨hm, hv, hN, S1⟩
    have Sz1 : Hid _ := (Sz.below S1.below).mono (show w.heap.size ≤ w1.heap.size by rw [S1.size]; omega)
    clear hm hv hN S1
    go_wp2_with fail
    rw [show (nx : Int) + (ny : Int) + 1 = ((nx + ny + 1 : Nat) : Int) by omega]
    refine (bufferFrom cz (nx + ny + 1) Sz1.out (by omega) (by omega)).mono ?_
    rintro e w2 ⟨s, Z, rfl, hs1, hs2, hZ, S2⟩
    have HZ : Hid _ := hZ
    have HS2 : Hid _ := S2
    clear hZ S2
    go_wp2_with fail
    refine (mulAdd (w := w2) (bz := w1.heap.size) (Z := Z) cx cy ca s s (T.out.lift Sx HS2.out) (T.out.lift Sy HS2.out) (T.out.lift Sa HS2.out) (by omega) (by omega) (by omega) Nx Ny Na hca hnil (HS2.out.again) HZ.out (by omega) (by omega) (by omega) (by omega)).mono ?_
    rintro e w3 ⟨m', Z', rfl, hl', hm', hv', hN', S3⟩
    obtain ⟨e1, S4, S5, B5⟩ := T.out.close HS2.out hl' hm' hv' hN' S3
    obtain rfl : m' = m := e1
    clear hl' hv' hN' S3
    go_wp2_with fail
    refine (eqWords_same s c S4 S5 (by omega)).mono ?_
    rintro e w4 ⟨rfl, q, rfl⟩
    go_wp2
    go_ret
    exact ⟨rfl, Below.drewN' B5 q⟩
set_option maxHeartbeats 1000000 in
theorem law_mul_out_z {w : World} {az ax ay aa : Option Addr} {nz nx ny na : Nat} {z x y a : List Int} (cz cx cy ca : Nat)
    (Sz : Sl w.heap.size w az nz z) (Sx : Sl w.heap.size w ax nx x) (Sy : Sl w.heap.size w ay ny y) (Sa : Sl w.heap.size w aa na a)
    (mz : nz ≤ 9223372036854775807) (mx : nx ≤ 9223372036854775807) (my : ny ≤ 9223372036854775807) (ma : na ≤ 9223372036854775807)
    (h : 65536 < nz) :
    Calls Try.prog 5 #[.slice az nz cz, .slice ax nx cx, .slice ay ny cy, .slice aa na ca] w fun e w' => e = .returned (.bool true) ∧ Below w.heap.size w w' := by
  go_enter Try.func5, Try.ntmps5
  go_wp2_with (first | (go_at_call 18; refine (bytes4 _ _ _ _ _ _ _ _ _ _ _ _ mz mx my ma _).mono ?_; rintro e w' ⟨b, rfl, hw⟩; rw [hw]; clear hw) | (go_at_call_of 9 (Value.slice ax nx cx); refine (isNormal cx Sx (by omega)).mono ?_; rintro e w' ⟨rfl, hw⟩; rw [hw]; clear hw) | (go_at_call_of 9 (Value.slice ay ny cy); refine (isNormal cy Sy (by omega)).mono ?_; rintro e w' ⟨rfl, hw⟩; rw [hw]; clear hw) | (go_at_call_of 9 (Value.slice aa na ca); refine (isNormal ca Sa (by omega)).mono ?_; rintro e w' ⟨rfl, hw⟩; rw [hw]; clear hw))
  all_goals (go_ret; exact ⟨rfl, Below.refl _ _⟩)

set_option maxHeartbeats 1000000 in
theorem law_mul_out_x {w : World} {az ax ay aa : Option Addr} {nz nx ny na : Nat} {z x y a : List Int} (cz cx cy ca : Nat)
    (Sz : Sl w.heap.size w az nz z) (Sx : Sl w.heap.size w ax nx x) (Sy : Sl w.heap.size w ay ny y) (Sa : Sl w.heap.size w aa na a)
    (mz : nz ≤ 9223372036854775807) (mx : nx ≤ 9223372036854775807) (my : ny ≤ 9223372036854775807) (ma : na ≤ 9223372036854775807)
    (hz : nz ≤ 65536) (h : 512 < nx) :
    Calls Try.prog 5 #[.slice az nz cz, .slice ax nx cx, .slice ay ny cy, .slice aa na ca] w fun e w' => e = .returned (.bool true) ∧ Below w.heap.size w w' := by
  go_enter Try.func5, Try.ntmps5
  go_wp2_with (first | (go_at_call 18; refine (bytes4 _ _ _ _ _ _ _ _ _ _ _ _ mz mx my ma _).mono ?_; rintro e w' ⟨b, rfl, hw⟩; rw [hw]; clear hw) | (go_at_call_of 9 (Value.slice ax nx cx); refine (isNormal cx Sx (by omega)).mono ?_; rintro e w' ⟨rfl, hw⟩; rw [hw]; clear hw) | (go_at_call_of 9 (Value.slice ay ny cy); refine (isNormal cy Sy (by omega)).mono ?_; rintro e w' ⟨rfl, hw⟩; rw [hw]; clear hw) | (go_at_call_of 9 (Value.slice aa na ca); refine (isNormal ca Sa (by omega)).mono ?_; rintro e w' ⟨rfl, hw⟩; rw [hw]; clear hw))
  all_goals (go_ret; exact ⟨rfl, Below.refl _ _⟩)

set_option maxHeartbeats 1000000 in
theorem law_mul_out_y {w : World} {az ax ay aa : Option Addr} {nz nx ny na : Nat} {z x y a : List Int} (cz cx cy ca : Nat)
    (Sz : Sl w.heap.size w az nz z) (Sx : Sl w.heap.size w ax nx x) (Sy : Sl w.heap.size w ay ny y) (Sa : Sl w.heap.size w aa na a)
    (mz : nz ≤ 9223372036854775807) (mx : nx ≤ 9223372036854775807) (my : ny ≤ 9223372036854775807) (ma : na ≤ 9223372036854775807)
    (hz : nz ≤ 65536) (hx : nx ≤ 512) (h : 512 < ny) :
    Calls Try.prog 5 #[.slice az nz cz, .slice ax nx cx, .slice ay ny cy, .slice aa na ca] w fun e w' => e = .returned (.bool true) ∧ Below w.heap.size w w' := by
  go_enter Try.func5, Try.ntmps5
  go_wp2_with (first | (go_at_call 18; refine (bytes4 _ _ _ _ _ _ _ _ _ _ _ _ mz mx my ma _).mono ?_; rintro e w' ⟨b, rfl, hw⟩; rw [hw]; clear hw) | (go_at_call_of 9 (Value.slice ax nx cx); refine (isNormal cx Sx (by omega)).mono ?_; rintro e w' ⟨rfl, hw⟩; rw [hw]; clear hw) | (go_at_call_of 9 (Value.slice ay ny cy); refine (isNormal cy Sy (by omega)).mono ?_; rintro e w' ⟨rfl, hw⟩; rw [hw]; clear hw) | (go_at_call_of 9 (Value.slice aa na ca); refine (isNormal ca Sa (by omega)).mono ?_; rintro e w' ⟨rfl, hw⟩; rw [hw]; clear hw))
  all_goals (go_ret; exact ⟨rfl, Below.refl _ _⟩)

set_option maxHeartbeats 1000000 in
theorem law_mul_out_a {w : World} {az ax ay aa : Option Addr} {nz nx ny na : Nat} {z x y a : List Int} (cz cx cy ca : Nat)
    (Sz : Sl w.heap.size w az nz z) (Sx : Sl w.heap.size w ax nx x) (Sy : Sl w.heap.size w ay ny y) (Sa : Sl w.heap.size w aa na a)
    (mz : nz ≤ 9223372036854775807) (mx : nx ≤ 9223372036854775807) (my : ny ≤ 9223372036854775807) (ma : na ≤ 9223372036854775807)
    (hz : nz ≤ 65536) (hx : nx ≤ 512) (hy : ny ≤ 512) (h : 512 < na) :
    Calls Try.prog 5 #[.slice az nz cz, .slice ax nx cx, .slice ay ny cy, .slice aa na ca] w fun e w' => e = .returned (.bool true) ∧ Below w.heap.size w w' := by
  go_enter Try.func5, Try.ntmps5
  go_wp2_with (first | (go_at_call 18; refine (bytes4 _ _ _ _ _ _ _ _ _ _ _ _ mz mx my ma _).mono ?_; rintro e w' ⟨b, rfl, hw⟩; rw [hw]; clear hw) | (go_at_call_of 9 (Value.slice ax nx cx); refine (isNormal cx Sx (by omega)).mono ?_; rintro e w' ⟨rfl, hw⟩; rw [hw]; clear hw) | (go_at_call_of 9 (Value.slice ay ny cy); refine (isNormal cy Sy (by omega)).mono ?_; rintro e w' ⟨rfl, hw⟩; rw [hw]; clear hw) | (go_at_call_of 9 (Value.slice aa na ca); refine (isNormal ca Sa (by omega)).mono ?_; rintro e w' ⟨rfl, hw⟩; rw [hw]; clear hw))
  all_goals (go_ret; exact ⟨rfl, Below.refl _ _⟩)

set_option maxHeartbeats 1000000 in
theorem law_mul_out_nx {w : World} {az ax ay aa : Option Addr} {nz nx ny na : Nat} {z x y a : List Int} (cz cx cy ca : Nat)
    (Sz : Sl w.heap.size w az nz z) (Sx : Sl w.heap.size w ax nx x) (Sy : Sl w.heap.size w ay ny y) (Sa : Sl w.heap.size w aa na a)
    (mz : nz ≤ 9223372036854775807) (mx : nx ≤ 9223372036854775807) (my : ny ≤ 9223372036854775807) (ma : na ≤ 9223372036854775807)
    (hz : nz ≤ 65536) (hx : nx ≤ 512) (hy : ny ≤ 512) (ha : na ≤ 512) (bx : normB x = false) :
    Calls Try.prog 5 #[.slice az nz cz, .slice ax nx cx, .slice ay ny cy, .slice aa na ca] w fun e w' => e = .returned (.bool true) ∧ Below w.heap.size w w' := by
  go_enter Try.func5, Try.ntmps5
  go_wp2_with (first | (go_at_call 18; refine (bytes4 _ _ _ _ _ _ _ _ _ _ _ _ mz mx my ma _).mono ?_; rintro e w' ⟨b, rfl, hw⟩; rw [hw]; clear hw) | (go_at_call_of 9 (Value.slice ax nx cx); refine (isNormal cx Sx (by omega)).mono ?_; rintro e w' ⟨rfl, hw⟩; rw [hw]; clear hw) | (go_at_call_of 9 (Value.slice ay ny cy); refine (isNormal cy Sy (by omega)).mono ?_; rintro e w' ⟨rfl, hw⟩; rw [hw]; clear hw) | (go_at_call_of 9 (Value.slice aa na ca); refine (isNormal ca Sa (by omega)).mono ?_; rintro e w' ⟨rfl, hw⟩; rw [hw]; clear hw))
  all_goals (go_ret; exact ⟨rfl, Below.refl _ _⟩)

set_option maxHeartbeats 1000000 in
theorem law_mul_out_ny {w : World} {az ax ay aa : Option Addr} {nz nx ny na : Nat} {z x y a : List Int} (cz cx cy ca : Nat)
    (Sz : Sl w.heap.size w az nz z) (Sx : Sl w.heap.size w ax nx x) (Sy : Sl w.heap.size w ay ny y) (Sa : Sl w.heap.size w aa na a)
    (mz : nz ≤ 9223372036854775807) (mx : nx ≤ 9223372036854775807) (my : ny ≤ 9223372036854775807) (ma : na ≤ 9223372036854775807)
    (hz : nz ≤ 65536) (hx : nx ≤ 512) (hy : ny ≤ 512) (ha : na ≤ 512) (bx : normB x = true) (by' : normB y = false) :
    Calls Try.prog 5 #[.slice az nz cz, .slice ax nx cx, .slice ay ny cy, .slice aa na ca] w fun e w' => e = .returned (.bool true) ∧ Below w.heap.size w w' := by
  go_enter Try.func5, Try.ntmps5
  go_wp2_with (first | (go_at_call 18; refine (bytes4 _ _ _ _ _ _ _ _ _ _ _ _ mz mx my ma _).mono ?_; rintro e w' ⟨b, rfl, hw⟩; rw [hw]; clear hw) | (go_at_call_of 9 (Value.slice ax nx cx); refine (isNormal cx Sx (by omega)).mono ?_; rintro e w' ⟨rfl, hw⟩; rw [hw]; clear hw) | (go_at_call_of 9 (Value.slice ay ny cy); refine (isNormal cy Sy (by omega)).mono ?_; rintro e w' ⟨rfl, hw⟩; rw [hw]; clear hw) | (go_at_call_of 9 (Value.slice aa na ca); refine (isNormal ca Sa (by omega)).mono ?_; rintro e w' ⟨rfl, hw⟩; rw [hw]; clear hw))
  all_goals (go_ret; exact ⟨rfl, Below.refl _ _⟩)

set_option maxHeartbeats 1000000 in
theorem law_mul_out_na {w : World} {az ax ay aa : Option Addr} {nz nx ny na : Nat} {z x y a : List Int} (cz cx cy ca : Nat)
    (Sz : Sl w.heap.size w az nz z) (Sx : Sl w.heap.size w ax nx x) (Sy : Sl w.heap.size w ay ny y) (Sa : Sl w.heap.size w aa na a)
    (mz : nz ≤ 9223372036854775807) (mx : nx ≤ 9223372036854775807) (my : ny ≤ 9223372036854775807) (ma : na ≤ 9223372036854775807)
    (hz : nz ≤ 65536) (hx : nx ≤ 512) (hy : ny ≤ 512) (ha : na ≤ 512) (bx : normB x = true) (by' : normB y = true) (ba : normB a = false) :
    Calls Try.prog 5 #[.slice az nz cz, .slice ax nx cx, .slice ay ny cy, .slice aa na ca] w fun e w' => e = .returned (.bool true) ∧ Below w.heap.size w w' := by
  go_enter Try.func5, Try.ntmps5
  go_wp2_with (first | (go_at_call 18; refine (bytes4 _ _ _ _ _ _ _ _ _ _ _ _ mz mx my ma _).mono ?_; rintro e w' ⟨b, rfl, hw⟩; rw [hw]; clear hw) | (go_at_call_of 9 (Value.slice ax nx cx); refine (isNormal cx Sx (by omega)).mono ?_; rintro e w' ⟨rfl, hw⟩; rw [hw]; clear hw) | (go_at_call_of 9 (Value.slice ay ny cy); refine (isNormal cy Sy (by omega)).mono ?_; rintro e w' ⟨rfl, hw⟩; rw [hw]; clear hw) | (go_at_call_of 9 (Value.slice aa na ca); refine (isNormal ca Sa (by omega)).mono ?_; rintro e w' ⟨rfl, hw⟩; rw [hw]; clear hw))
  all_goals (go_ret; exact ⟨rfl, Below.refl _ _⟩)

theorem law_mul {w : World} {az ax ay aa : Option Addr} {nz nx ny na : Nat} {z x y a : List Int} (cz cx cy ca : Nat)
    (Sz : Sl w.heap.size w az nz z) (Sx : Sl w.heap.size w ax nx x) (Sy : Sl w.heap.size w ay ny y) (Sa : Sl w.heap.size w aa na a)
    (mz : nz ≤ 9223372036854775807) (mx : nx ≤ 9223372036854775807) (my : ny ≤ 9223372036854775807) (ma : na ≤ 9223372036854775807)
    (hca : na ≤ ca) (hnil : aa = none → ca = 0) :
    Calls Try.prog 5 #[.slice az nz cz, .slice ax nx cx, .slice ay ny cy, .slice aa na ca] w fun e w' => e = .returned (.bool true) ∧ Below w.heap.size w w' := by
  by_cases hz : nz ≤ 65536
  · by_cases hx : nx ≤ 512
    · by_cases hy : ny ≤ 512
      · by_cases ha : na ≤ 512
        · cases bx : normB x with
          | false => exact law_mul_out_nx cz cx cy ca Sz Sx Sy Sa mz mx my ma hz hx hy ha bx
          | true =>
            cases by' : normB y with
            | false => exact law_mul_out_ny cz cx cy ca Sz Sx Sy Sa mz mx my ma hz hx hy ha bx by'
            | true =>
              cases ba : normB a with
              | false => exact law_mul_out_na cz cx cy ca Sz Sx Sy Sa mz mx my ma hz hx hy ha bx by' ba
              | true => exact law_mul_in cz cx cy ca Sz Sx Sy Sa hz hx hy ha hca hnil ((normB_iff x).1 bx) ((normB_iff y).1 by') ((normB_iff a).1 ba)
        · exact law_mul_out_a cz cx cy ca Sz Sx Sy Sa mz mx my ma hz hx hy (by omega)
      · exact law_mul_out_y cz cx cy ca Sz Sx Sy Sa mz mx my ma hz hx (by omega)
    · exact law_mul_out_x cz cx cy ca Sz Sx Sy Sa mz mx my ma hz (by omega)
  · exact law_mul_out_z cz cx cy ca Sz Sx Sy Sa mz mx my ma (by omega)

end Go.Proofs.Qxb6620824a
