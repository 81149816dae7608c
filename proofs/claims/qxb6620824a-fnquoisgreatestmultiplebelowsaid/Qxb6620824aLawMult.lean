/-
  THE LAW FnQuoIsGreatestMultipleBelow: its walk.
-/
import Derived.Test.Qxb6620824aMulAddC
import Derived.Test.Qxb6620824aQuoC
import Derived.Test.Qxb6620824aCmp
set_option linter.unusedVariables false
namespace Go.Proofs.Qxb6620824a
open Go.RowKit Plain

set_option maxHeartbeats 1000000 in
theorem bytes3m (p0 p1 p2 : Option Addr) (n0 n1 n2 c0 c1 c2 : Nat) (h0 : n0 ≤ 9223372036854775807) (h1 : n1 ≤ 9223372036854775807) (h2 : n2 ≤ 9223372036854775807) (w : World) :
    Calls Try.prog 23 #[.slice p0 n0 c0, .slice p1 n1 c1, .slice p2 n2 c2] w fun e w' => ∃ b, e = .returned (.bool b) ∧ w' = w := by
  go_enter Try.func23, Try.ntmps23
  go_wp2
  all_goals (go_ret; exact ⟨_, rfl, rfl⟩)

theorem Step.againM {B b : Nat} {w wr : World} {sz : Nat} {L : List Int} (h : Step B b w wr sz L) : Step b b wr wr wr.heap.size L := ⟨h.blk, Below.refl _ _, rfl, h.word⟩

theorem sl_nil (base : Nat) (w : World) : Sl base w none 0 [] := ⟨rfl, (fun x hx => by cases hx), .inl rfl⟩
theorem norm_nil : Norm [] := .inl rfl

/-- After cloneWords and bufferFrom: the two rows. -/
theorem duo_two {w w1 w2 : World} {x Z : List Int} (S1 : Step w.heap.size w.heap.size w w1 (w.heap.size + 1) x) (S2 : Step w1.heap.size w1.heap.size w1 w2 (w1.heap.size + 1) Z) : Duo w.heap.size w1.heap.size w2 w2 x Z :=
  ⟨S1.blk.below S2.below S1.blk.lt, S2.blk, Below.refl _ _, rfl, S1.word, S2.word⟩

theorem below_two {w w1 w2 : World} {x Z : List Int} (S1 : Step w.heap.size w.heap.size w w1 (w.heap.size + 1) x) (S2 : Step w1.heap.size w1.heap.size w1 w2 (w1.heap.size + 1) Z) : Below w.heap.size w w2 :=
  S1.below.trans (S2.below.mono (Nat.le_of_lt S1.blk.lt))

theorem mult_low {u v : Int} (h0 : 0 ≤ u) (hv : 0 < v) : u / v * v + val [] ≤ u := by
  have := Int.ediv_mul_le u (Int.ne_of_gt hv)
  simp only [val, Int.add_zero]
  exact this
theorem mult_high {u v : Int} (h0 : 0 ≤ u) (hv : 0 < v) : u < u / v * v + v := by
  have := Int.lt_ediv_add_one_mul_self u hv
  rw [Int.add_mul, Int.one_mul] at this
  exact this
theorem cmpZ_le {u v : Int} (h : u ≤ v) : cmpZ u v ≤ 0 := by unfold cmpZ; split; decide; split; decide; omega

/-- A buffer of n words is made at the end of the store. -/
theorem step_madeM (w : World) (n : Nat) : Step w.heap.size w.heap.size (w.alloc (.cells (madeCells #[Value.int .u64 0] n) 39)) (w.alloc (.cells (madeCells #[Value.int .u64 0] n) 39)) (w.alloc (.cells (madeCells #[Value.int .u64 0] n) 39)).heap.size (List.replicate n 0) :=
  ⟨Blk.made w n, Below.refl _ _, rfl, words_replicate n⟩
theorem below_madeM (w : World) (o : Obj) : Below w.heap.size w (w.alloc o) := (Below.refl _ w).alloc (Nat.le_refl _) _

set_option maxRecDepth 100000 in
set_option maxHeartbeats 2000000 in
theorem law_mult_in {w : World} {az ax ay : Option Addr} {nz nx ny : Nat} {z x y : List Int} (cz cx cy : Nat)
    (Sz : Sl w.heap.size w az nz z) (Sx : Sl w.heap.size w ax nx x) (Sy : Sl w.heap.size w ay ny y)
    (hz : nz ≤ 65536) (hx : nx ≤ 512) (hy : ny ≤ 512) (hcy : ny ≤ cy) (hnil : ay = none → cy = 0) (Nx : Norm x) (Ny : Norm y) (hy0 : 0 < ny) :
    Calls Try.prog 7 #[.slice az nz cz, .slice ax nx cx, .slice ay ny cy] w fun e w' => e = .returned (.bool true) ∧ Below w.heap.size w w' := by
  have bx := (normB_iff x).2 Nx
  have by' := (normB_iff y).2 Ny
  have hd : ((ny : Int) == 0) = false := by simp; omega
  have HYp : Hid (0 < val y) := by
    have h := norm_ge Sy.word Ny (by rw [Sy.len]; exact hy0)
    have := pw_pos (y.length - 1)
    show 0 < val y
    omega
  have HXp : Hid (0 ≤ val x) := (val_bound Sx.word).1
  go_enter Try.func7, Try.ntmps7
  go_wp2_with (first | (go_at_call 23; refine (bytes3m _ _ _ _ _ _ _ _ _ (by omega) (by omega) (by omega) _).mono ?_; rintro e w' ⟨b, rfl, hw⟩; rw [hw]; clear hw) | (go_at_call_of 9 (Value.slice ax nx cx); refine (isNormal cx Sx (by omega)).mono ?_; rintro e w' ⟨rfl, hw⟩; rw [hw]; clear hw) | (go_at_call_of 9 (Value.slice ay ny cy); refine (isNormal cy Sy (by omega)).mono ?_; rintro e w' ⟨rfl, hw⟩; rw [hw]; clear hw))
  · go_ret
    exact ⟨rfl, Below.refl _ _⟩
  · refine (cloneWords cx Sx (by omega)).mono ?_
    rintro e w1 ⟨rfl, S1⟩
    have HS1 : Hid _ := S1
    clear S1
    go_wp2_with fail
    rw [show (nx : Int) + 1 = ((nx + 1 : Nat) : Int) by omega]
    refine (bufferFrom cz (nx + 1) ((Sz.below HS1.out.below).mono (Nat.le_of_lt HS1.out.blk.lt)) (by omega) (by omega)).mono ?_
    rintro e w2 ⟨s, Z, rfl, hs1, hs2, hZ, S2⟩
    have HZ : Hid _ := hZ
    have HS2 : Hid _ := S2
    clear hZ S2
    go_wp2_with fail
    refine (quo (w := w2) (bx := w.heap.size) (bz := w1.heap.size) (X := x) (Z := Z) nx cy s s HS1.out.blk.lt (Sy.below (below_two HS1.out HS2.out)) Ny hy0 (by omega) hcy (duo_two HS1.out HS2.out) (by rw [Sx.len]; omega) (Nat.le_refl _) (by rw [Sx.len]; omega) (by omega) (by rw [show x.take nx = x from List.take_of_length_le (by rw [Sx.len]; omega)]; exact Nx) HZ.out (by omega) (by omega) (by omega)).mono ?_
    rintro e w3 ⟨a, Q, X', rfl, hQl, ha, hv, hN, D3⟩
    have B3 : Hid (Below w.heap.size w w3) := (below_two HS1.out HS2.out).trans D3.below
    have Sq := Sl.of_blk D3.bZ D3.bZ.lt D3.wZ a (by omega)
    have Sx3 := (Sx.below B3.out).mono B3.out.size
    have Sy3 := (Sy.below B3.out).mono B3.out.size
    have e1 : pre x nx = val x := by rw [← Sx.len]; exact pre_all x
    rw [e1] at hv
    obtain ⟨q, hq⟩ : ∃ q, q = Q.take a := ⟨_, rfl⟩
    rw [← hq] at hv hN Sq
    have hbn := (normB_iff q).2 hN
    have HV : Hid _ := hv
    have HN : Hid _ := hN
    have HB : Hid (w.heap.size ≤ w3.heap.size) := B3.out.size
    clear hv hN D3 HS1 HS2 HZ Sz Sx Sy hQl hq e1
    obtain ⟨b1, hb1⟩ : ∃ b1, b1 = w1.heap.size := ⟨_, rfl⟩
    rw [← hb1] at Sq ⊢
    clear hb1
    have hmk := make_run (a + ny + 1) (by omega)
    rw [show ((a + ny + 1 : Nat) : Int) = (a : Int) + (ny : Int) + 1 by omega] at hmk
    go_wp2_with (first | (go_at_call 9; refine (isNormal s Sq (by omega)).mono ?_; rintro e w' ⟨rfl, hw⟩; rw [hw]; clear hw))
    refine (mulAdd (w := w3.alloc (.cells (madeCells #[Value.int .u64 0] (a + ny + 1)) 39)) (bz := w3.heap.size) (Z := List.replicate (a + ny + 1) 0) s cy 0 (a + ny + 1) (a + ny + 1) (Sq.below (below_madeM _ _)) (Sy3.below (below_madeM _ _)) (sl_nil _ _) (by omega) (by omega) (by omega) HN.out Ny norm_nil (by omega) (fun _ => rfl) (step_madeM _ _) List.length_replicate (by omega) (by omega) (by omega) (by omega)).mono ?_
    rintro e w5 ⟨m5, Z5, rfl, hl5, hm5, hv5, hN5, S5⟩
    have B5 : Hid (Below w3.heap.size w3 w5) := (below_madeM _ _).trans S5.below
    have HB5 : Hid (w3.heap.size < w5.heap.size) := S5.blk.lt
    have SL5 := Sl.of_blk S5.blk S5.blk.lt S5.word m5 (by omega)
    obtain ⟨lo, hlo⟩ : ∃ lo, lo = Z5.take m5 := ⟨_, rfl⟩
    rw [← hlo] at hv5 hN5 SL5
    have HV5 : Hid _ := hv5
    have HN5 : Hid _ := hN5
    clear hv5 hN5 S5 hl5 hlo
    have Sq5 := (Sq.below B5.out).mono B5.out.size
    have Sy5 := (Sy3.below B5.out).mono B5.out.size
    have Sx5 := (Sx3.below B5.out).mono B5.out.size
    go_wp2_with fail
    refine (mulAdd (w := w5.alloc (.cells (madeCells #[Value.int .u64 0] (a + ny + 1)) 39)) (bz := w5.heap.size) (Z := List.replicate (a + ny + 1) 0) s cy cy (a + ny + 1) (a + ny + 1) (Sq5.below (below_madeM _ _)) (Sy5.below (below_madeM _ _)) (Sy5.below (below_madeM _ _)) (by omega) (by omega) (by omega) HN.out Ny Ny hcy hnil (step_madeM _ _) List.length_replicate (by omega) (by omega) (by omega) (by omega)).mono ?_
    rintro e w7 ⟨m7, Z7, rfl, hl7, hm7, hv7, hN7, S7⟩
    have B7 : Hid (Below w5.heap.size w5 w7) := (below_madeM _ _).trans S7.below
    have SL7 := Sl.of_blk S7.blk S7.blk.lt S7.word m7 (by omega)
    obtain ⟨hi, hhi⟩ : ∃ hi, hi = Z7.take m7 := ⟨_, rfl⟩
    rw [← hhi] at hv7 hN7 SL7
    have HV7 : Hid _ := hv7
    have HN7 : Hid _ := hN7
    clear hv7 hN7 S7 hl7 hhi hmk
    have Sx7 := (Sx5.below B7.out).mono B7.out.size
    have SL57 := (SL5.below B7.out).mono B7.out.size
    have BB : Hid (Below w.heap.size w w7) := B3.out.trans ((B5.out.mono HB.out).trans (B7.out.mono (Nat.le_trans HB.out (Nat.le_of_lt HB5.out))))
    have c1 : cmpZ (val lo) (val x) ≤ 0 := cmpZ_le (by rw [HV5.out, HV.out]; exact mult_low HXp.out HYp.out)
    have c2 : cmpZ (val x) (val hi) = -1 := cmpZ_lt (by rw [HV7.out, HV.out]; exact mult_high HXp.out HYp.out)
    obtain ⟨b3, hb3⟩ : ∃ b3, b3 = w3.heap.size := ⟨_, rfl⟩
    obtain ⟨b5, hb5⟩ : ∃ b5, b5 = w5.heap.size := ⟨_, rfl⟩
    rw [← hb3] at SL57 ⊢
    rw [← hb5] at SL7 ⊢
    clear hb3 hb5 Sq Sx3 Sy3 B5 HB5 SL5 Sq5 Sy5 Sx5 B7 HB B3 bx by' hbn
    go_wp2_with fail
    refine (cmpNat (a + ny + 1) cx SL57 Sx7 HN5.out Nx (by omega) (by omega)).mono ?_
    rintro e w' ⟨rfl, q1, hw⟩
    rw [hw]
    clear hw
    go_wp2_with fail
    refine (cmpNat cx (a + ny + 1) (Sx7.drewN q1) (SL7.drewN q1) Nx HN7.out (by omega) (by omega)).mono ?_
    rintro e w' ⟨rfl, q2, hw⟩
    rw [hw]
    clear hw
    go_wp2
    go_ret
    exact ⟨rfl, Below.drewN' BB.out _⟩

set_option maxHeartbeats 1000000 in
theorem law_mult_out_z {w : World} {az ax ay : Option Addr} {nz nx ny : Nat} {z x y : List Int} (cz cx cy : Nat)
    (Sz : Sl w.heap.size w az nz z) (Sx : Sl w.heap.size w ax nx x) (Sy : Sl w.heap.size w ay ny y)
    (mz : nz ≤ 9223372036854775807) (mx : nx ≤ 9223372036854775807) (my : ny ≤ 9223372036854775807)
    (h : 65536 < nz) :
    Calls Try.prog 7 #[.slice az nz cz, .slice ax nx cx, .slice ay ny cy] w fun e w' => e = .returned (.bool true) ∧ Below w.heap.size w w' := by
  go_enter Try.func7, Try.ntmps7
  go_wp2_with (first | (go_at_call 23; refine (bytes3m _ _ _ _ _ _ _ _ _ mz mx my _).mono ?_; rintro e w' ⟨b, rfl, hw⟩; rw [hw]; clear hw) | (go_at_call_of 9 (Value.slice ax nx cx); refine (isNormal cx Sx (by omega)).mono ?_; rintro e w' ⟨rfl, hw⟩; rw [hw]; clear hw) | (go_at_call_of 9 (Value.slice ay ny cy); refine (isNormal cy Sy (by omega)).mono ?_; rintro e w' ⟨rfl, hw⟩; rw [hw]; clear hw))
  all_goals (go_ret; exact ⟨rfl, by first | exact Below.refl _ _ | exact Below.drewN' (Below.refl _ _) _⟩)

set_option maxHeartbeats 1000000 in
theorem law_mult_out_x {w : World} {az ax ay : Option Addr} {nz nx ny : Nat} {z x y : List Int} (cz cx cy : Nat)
    (Sz : Sl w.heap.size w az nz z) (Sx : Sl w.heap.size w ax nx x) (Sy : Sl w.heap.size w ay ny y)
    (mz : nz ≤ 9223372036854775807) (mx : nx ≤ 9223372036854775807) (my : ny ≤ 9223372036854775807)
    (hz : nz ≤ 65536) (h : 512 < nx) :
    Calls Try.prog 7 #[.slice az nz cz, .slice ax nx cx, .slice ay ny cy] w fun e w' => e = .returned (.bool true) ∧ Below w.heap.size w w' := by
  go_enter Try.func7, Try.ntmps7
  go_wp2_with (first | (go_at_call 23; refine (bytes3m _ _ _ _ _ _ _ _ _ mz mx my _).mono ?_; rintro e w' ⟨b, rfl, hw⟩; rw [hw]; clear hw) | (go_at_call_of 9 (Value.slice ax nx cx); refine (isNormal cx Sx (by omega)).mono ?_; rintro e w' ⟨rfl, hw⟩; rw [hw]; clear hw) | (go_at_call_of 9 (Value.slice ay ny cy); refine (isNormal cy Sy (by omega)).mono ?_; rintro e w' ⟨rfl, hw⟩; rw [hw]; clear hw))
  all_goals (go_ret; exact ⟨rfl, by first | exact Below.refl _ _ | exact Below.drewN' (Below.refl _ _) _⟩)

set_option maxHeartbeats 1000000 in
theorem law_mult_out_y {w : World} {az ax ay : Option Addr} {nz nx ny : Nat} {z x y : List Int} (cz cx cy : Nat)
    (Sz : Sl w.heap.size w az nz z) (Sx : Sl w.heap.size w ax nx x) (Sy : Sl w.heap.size w ay ny y)
    (mz : nz ≤ 9223372036854775807) (mx : nx ≤ 9223372036854775807) (my : ny ≤ 9223372036854775807)
    (hz : nz ≤ 65536) (hx : nx ≤ 512) (h : 512 < ny) :
    Calls Try.prog 7 #[.slice az nz cz, .slice ax nx cx, .slice ay ny cy] w fun e w' => e = .returned (.bool true) ∧ Below w.heap.size w w' := by
  go_enter Try.func7, Try.ntmps7
  go_wp2_with (first | (go_at_call 23; refine (bytes3m _ _ _ _ _ _ _ _ _ mz mx my _).mono ?_; rintro e w' ⟨b, rfl, hw⟩; rw [hw]; clear hw) | (go_at_call_of 9 (Value.slice ax nx cx); refine (isNormal cx Sx (by omega)).mono ?_; rintro e w' ⟨rfl, hw⟩; rw [hw]; clear hw) | (go_at_call_of 9 (Value.slice ay ny cy); refine (isNormal cy Sy (by omega)).mono ?_; rintro e w' ⟨rfl, hw⟩; rw [hw]; clear hw))
  all_goals (go_ret; exact ⟨rfl, by first | exact Below.refl _ _ | exact Below.drewN' (Below.refl _ _) _⟩)

set_option maxHeartbeats 1000000 in
theorem law_mult_out_y0 {w : World} {az ax ay : Option Addr} {nz nx ny : Nat} {z x y : List Int} (cz cx cy : Nat)
    (Sz : Sl w.heap.size w az nz z) (Sx : Sl w.heap.size w ax nx x) (Sy : Sl w.heap.size w ay ny y)
    (mz : nz ≤ 9223372036854775807) (mx : nx ≤ 9223372036854775807) (my : ny ≤ 9223372036854775807)
    (hz : nz ≤ 65536) (hx : nx ≤ 512) (hy : ny ≤ 512) (hy0 : ny = 0) :
    Calls Try.prog 7 #[.slice az nz cz, .slice ax nx cx, .slice ay ny cy] w fun e w' => e = .returned (.bool true) ∧ Below w.heap.size w w' := by
  have hd : ((ny : Int) == 0) = true := by simp; omega
  clear hy0
  go_enter Try.func7, Try.ntmps7
  go_wp2_with (first | (go_at_call 23; refine (bytes3m _ _ _ _ _ _ _ _ _ mz mx my _).mono ?_; rintro e w' ⟨b, rfl, hw⟩; rw [hw]; clear hw) | (go_at_call_of 9 (Value.slice ax nx cx); refine (isNormal cx Sx (by omega)).mono ?_; rintro e w' ⟨rfl, hw⟩; rw [hw]; clear hw) | (go_at_call_of 9 (Value.slice ay ny cy); refine (isNormal cy Sy (by omega)).mono ?_; rintro e w' ⟨rfl, hw⟩; rw [hw]; clear hw))
  all_goals (go_ret; exact ⟨rfl, by first | exact Below.refl _ _ | exact Below.drewN' (Below.refl _ _) _⟩)

set_option maxHeartbeats 1000000 in
theorem law_mult_out_ny {w : World} {az ax ay : Option Addr} {nz nx ny : Nat} {z x y : List Int} (cz cx cy : Nat)
    (Sz : Sl w.heap.size w az nz z) (Sx : Sl w.heap.size w ax nx x) (Sy : Sl w.heap.size w ay ny y)
    (mz : nz ≤ 9223372036854775807) (mx : nx ≤ 9223372036854775807) (my : ny ≤ 9223372036854775807)
    (hz : nz ≤ 65536) (hx : nx ≤ 512) (hy : ny ≤ 512) (hy0 : 0 < ny) (by' : normB y = false) :
    Calls Try.prog 7 #[.slice az nz cz, .slice ax nx cx, .slice ay ny cy] w fun e w' => e = .returned (.bool true) ∧ Below w.heap.size w w' := by
  have hd : ((ny : Int) == 0) = false := by simp; omega
  go_enter Try.func7, Try.ntmps7
  go_wp2_with (first | (go_at_call 23; refine (bytes3m _ _ _ _ _ _ _ _ _ mz mx my _).mono ?_; rintro e w' ⟨b, rfl, hw⟩; rw [hw]; clear hw) | (go_at_call_of 9 (Value.slice ax nx cx); refine (isNormal cx Sx (by omega)).mono ?_; rintro e w' ⟨rfl, hw⟩; rw [hw]; clear hw) | (go_at_call_of 9 (Value.slice ay ny cy); refine (isNormal cy Sy (by omega)).mono ?_; rintro e w' ⟨rfl, hw⟩; rw [hw]; clear hw))
  all_goals (go_ret; exact ⟨rfl, by first | exact Below.refl _ _ | exact Below.drewN' (Below.refl _ _) _⟩)

set_option maxHeartbeats 1000000 in
theorem law_mult_out_nx {w : World} {az ax ay : Option Addr} {nz nx ny : Nat} {z x y : List Int} (cz cx cy : Nat)
    (Sz : Sl w.heap.size w az nz z) (Sx : Sl w.heap.size w ax nx x) (Sy : Sl w.heap.size w ay ny y)
    (mz : nz ≤ 9223372036854775807) (mx : nx ≤ 9223372036854775807) (my : ny ≤ 9223372036854775807)
    (hz : nz ≤ 65536) (hx : nx ≤ 512) (hy : ny ≤ 512) (hy0 : 0 < ny) (by' : normB y = true) (bx : normB x = false) :
    Calls Try.prog 7 #[.slice az nz cz, .slice ax nx cx, .slice ay ny cy] w fun e w' => e = .returned (.bool true) ∧ Below w.heap.size w w' := by
  have hd : ((ny : Int) == 0) = false := by simp; omega
  go_enter Try.func7, Try.ntmps7
  go_wp2_with (first | (go_at_call 23; refine (bytes3m _ _ _ _ _ _ _ _ _ mz mx my _).mono ?_; rintro e w' ⟨b, rfl, hw⟩; rw [hw]; clear hw) | (go_at_call_of 9 (Value.slice ax nx cx); refine (isNormal cx Sx (by omega)).mono ?_; rintro e w' ⟨rfl, hw⟩; rw [hw]; clear hw) | (go_at_call_of 9 (Value.slice ay ny cy); refine (isNormal cy Sy (by omega)).mono ?_; rintro e w' ⟨rfl, hw⟩; rw [hw]; clear hw))
  all_goals (go_ret; exact ⟨rfl, by first | exact Below.refl _ _ | exact Below.drewN' (Below.refl _ _) _⟩)

theorem law_mult {w : World} {az ax ay : Option Addr} {nz nx ny : Nat} {z x y : List Int} (cz cx cy : Nat)
    (Sz : Sl w.heap.size w az nz z) (Sx : Sl w.heap.size w ax nx x) (Sy : Sl w.heap.size w ay ny y)
    (mz : nz ≤ 9223372036854775807) (mx : nx ≤ 9223372036854775807) (my : ny ≤ 9223372036854775807)
    (hcy : ny ≤ cy) (hnil : ay = none → cy = 0) :
    Calls Try.prog 7 #[.slice az nz cz, .slice ax nx cx, .slice ay ny cy] w fun e w' => e = .returned (.bool true) ∧ Below w.heap.size w w' := by
  by_cases hz : nz ≤ 65536
  · by_cases hx : nx ≤ 512
    · by_cases hy : ny ≤ 512
      · by_cases hy0 : ny = 0
        · exact law_mult_out_y0 cz cx cy Sz Sx Sy mz mx my hz hx hy hy0
        · cases by' : normB y with
          | false => exact law_mult_out_ny cz cx cy Sz Sx Sy mz mx my hz hx hy (by omega) by'
          | true =>
            cases bx : normB x with
            | false => exact law_mult_out_nx cz cx cy Sz Sx Sy mz mx my hz hx hy (by omega) by' bx
            | true => exact law_mult_in cz cx cy Sz Sx Sy hz hx hy hcy hnil ((normB_iff x).1 bx) ((normB_iff y).1 by') (by omega)
      · exact law_mult_out_y cz cx cy Sz Sx Sy mz mx my hz hx (by omega)
    · exact law_mult_out_x cz cx cy Sz Sx Sy mz mx my hz (by omega)
  · exact law_mult_out_z cz cx cy Sz Sx Sy mz mx my (by omega)

end Go.Proofs.Qxb6620824a
