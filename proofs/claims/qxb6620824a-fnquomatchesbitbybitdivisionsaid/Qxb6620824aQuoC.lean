/-
  nat.Quo: its contract.
-/
import Derived.Test.Qxb6620824aQuo
set_option linter.unusedVariables false
namespace Go.Proofs.Qxb6620824a
open Go.RowKit Plain

set_option maxRecDepth 100000 in
set_option maxHeartbeats 1000000 in
theorem quo_short (bz nz cz nx cx n cy : Nat) (px py : Option Addr) (h0 : 0 < n) (hlt : nx < n) (hn : n ≤ 1000000) (w : World) :
    Calls Try.prog 13 #[.slice (some ⟨bz, 0, none⟩) nz cz, .slice px nx cx, .slice py n cy] w fun e w' => e = .returned (.slice (some ⟨bz, 0, none⟩) 0 cz) ∧ w' = w := by
  have hd0 : ((n : Int) == 0) = false := by simp; omega
  have hd2 : decide ((nx : Int) < (n : Int)) = true := decide_eq_true (by omega)
  go_enter Try.func13, Try.ntmps13
  go_wp2
  go_ret
  exact ⟨rfl, rfl⟩

set_option maxRecDepth 100000 in
set_option maxHeartbeats 1000000 in
theorem quo_one {w : World} {bx bz by' oy : Nat} {x Z : List Int} (nx cx nz cz cy : Nat) (d : Int) (hd : 0 < d) (hd' : d < 18446744073709551616) (hy : w.cell? ⟨by', oy, none⟩ = some (.int .u64 d)) (hbz : bx < bz) (hx : Blk w bx x) (wx : Words x) (hnx : nx ≤ x.length) (hx0 : 0 < nx) (hxm : nx ≤ 100000)
    (hnorm : nth x (nx - 1) ≠ 0) (HB : Step bz bz w w w.heap.size Z) (hz : Z.length = cz) (hcz : nx ≤ cz) (hczm : cz ≤ 1000000) (hnz : nz ≤ cz) :
    Calls Try.prog 13 #[.slice (some ⟨bz, 0, none⟩) nz cz, .slice (some ⟨bx, 0, none⟩) nx cx, .slice (some ⟨by', oy, none⟩) 1 cy] w fun e w' => ∃ m Z', e = .returned (.slice (some ⟨bz, 0, none⟩) m cz) ∧ Z'.length = cz ∧ m ≤ nx ∧ val (Z'.take m) = pre x nx / d ∧ Norm (Z'.take m) ∧ Step bz bz w w' w.heap.size Z' := by
  have hd2 : decide ((nx : Int) < 1) = false := decide_eq_false (by omega)
  have hd3 : decide (nx < 1) = false := decide_eq_false (by omega)
  have Hx : Hid (Blk w bx x) := hx
  have Hn : Hid (nth x (nx - 1) ≠ 0) := hnorm
  have Hz : Hid (Z.length = cz) := hz
  have HHB : Hid (Step bz bz w w w.heap.size Z) := HB
  clear hx hnorm hz HB
  go_enter Try.func13, Try.ntmps13
  go_wp2_with (go_at_call 28; refine (quoWord nx cx nz cz d hd hd' hbz Hx.out wx hnx hx0 hxm Hn.out HHB.out Hz.out hcz hczm hnz).mono ?_; rintro e w' ⟨m, Z', rfl, h1, h2, h3, h4, h5⟩)
  go_ret
  exact ⟨m, Z', rfl, by assumption, by assumption, by assumption, by assumption, by assumption⟩

/-- nat.Quo: x / y, rounded down, without a zero word on top. x's row is overwritten; what lies below it stays. -/
theorem quo {w : World} {bx bz : Nat} {ay : Option Addr} {nx ny : Nat} {X y Z : List Int} (cx cy nz cz : Nat) (hbz : bx < bz) (Sy : Sl bx w ay ny y) (Ny : Norm y) (hy0 : 0 < ny) (hy : ny ≤ 10000) (hcy : ny ≤ cy)
    (DU : Duo bx bz w w X Z) (hnx : nx ≤ X.length) (hnc : nx ≤ cx) (hlx : X.length ≤ 100000) (hcx : cx ≤ 100000) (Nx : Norm (X.take nx)) (hz : Z.length = cz) (hcz : nx < cz) (hczm : cz ≤ 1000000) (hnz : nz ≤ cz) :
    Calls Try.prog 13 #[.slice (some ⟨bz, 0, none⟩) nz cz, .slice (some ⟨bx, 0, none⟩) nx cx, .slice ay ny cy] w fun e w' => ∃ a Z' X', e = .returned (.slice (some ⟨bz, 0, none⟩) a cz) ∧ Z'.length = cz ∧ a ≤ nx ∧ val (Z'.take a) = pre X nx / val y ∧ Norm (Z'.take a) ∧ Duo bx bz w w' X' Z' := by
  have wX := DU.wX
  have hyl := Sy.len
  have hV := norm_ge Sy.word Ny (by omega)
  rw [hyl] at hV
  have hVp : 0 < val y := by have := pw_pos (ny - 1); omega
  have hVb := (val_bound Sy.word).2
  rw [hyl] at hVb
  by_cases hlt : nx < ny
  · refine (quo_short bz nz cz nx cx ny cy (some ⟨bx, 0, none⟩) ay hy0 hlt (by omega) w).mono fun e w' ⟨he, hw⟩ => ⟨0, Z, X, he, hz, by omega, ?_, .inl (by simp), by rw [hw]; exact DU⟩
    have b := pre_bound wX nx
    have p := pw_le (show nx ≤ ny - 1 by omega)
    have : pre X nx / val y = 0 := Int.ediv_eq_zero_of_lt b.1 (by omega)
    rw [this]; simp [val]
  · obtain ⟨by', oy, rfl, hby, hc⟩ := Sy.at hy0
    have hxt : nth X (nx - 1) ≠ 0 := by
      rcases Nx with h | h
      · have h2 : (X.take nx).length = 0 := by rw [h]; rfl
        rw [List.length_take] at h2
        omega
      · rwa [List.length_take, Nat.min_eq_left hnx, nth_take X nx _ (by omega)] at h
    by_cases h1 : ny = 1
    · subst h1
      have hd : val y = nth y 0 := by rw [← pre_all, hyl, pre_succ' y 0, pre_zero]; simp [pw]
      have hwy := nth_word Sy.word 0
      have HB : Step bz bz w w w.heap.size Z := ⟨DU.bZ, Below.refl _ _, rfl, DU.wZ⟩
      refine (quo_one nx cx nz cz cy (nth y 0) (by omega) hwy.2 (by simpa using hc 0 (by omega)) hbz DU.bX wX hnx (by omega) (by omega) hxt HB hz (by omega) hczm hnz).mono fun e w' ⟨m, Z', he, hl, hm, hv, hN, hs⟩ => ⟨m, Z', X, he, hl, hm, by rw [hd]; exact hv, hN, ?_⟩
      exact ⟨DU.bX.below hs.below hbz, hs.blk, hs.below.mono (by omega), hs.size, wX, hs.word⟩
    · obtain ⟨e, rfl⟩ : ∃ e, ny = e + 2 := ⟨ny - 2, by omega⟩
      obtain ⟨m, rfl⟩ : ∃ m, nx = m + (e + 2) := ⟨nx - (e + 2), by omega⟩
      have hwy := nth_word Sy.word (e + 1)
      have hyt : nth y (e + 1) ≠ 0 := by
        rcases Ny with h | h
        · rw [h] at hyl; simp at hyl
        · rwa [hyl, show e + 2 - 1 = e + 1 by omega] at h
      obtain ⟨l0, l1, l2, l3⟩ := lz_bounds (nth y (e + 1)) (by have := hwy.1; omega) hwy.2
      obtain ⟨k, hk⟩ := Int.eq_ofNat_of_zero_le l0
      have hk' : lz (nth y (e + 1)) = (k : Int) := hk
      rw [hk'] at l1 l2 l3
      rw [Int.toNat_natCast] at l2 l3
      have hk64 : k < 64 := by omega
      obtain ⟨pp, pr, ppr⟩ := pr_of k hk64
      have D : Div y e (2 ^ k) (2 ^ (64 - k)) k := ⟨Sy.word, hyl, rfl, pp, pr, ppr, l2, l3⟩
      have hx1 := norm_ge (wX.take (m + (e + 2))) Nx (by rw [List.length_take]; omega)
      rw [List.length_take, Nat.min_eq_left hnx, pre_take] at hx1
      refine (quo_walk (w := w) (bx := bx) (bz := bz) (by' := by') (oy := oy) (nx := m + (e + 2)) (n := e + 2) (m := m) (e := e) (e1 := e + 1) (k := k) (X := X) (y := y) (Z := Z) (P := 2 ^ k) (R := 2 ^ (64 - k)) (x0 := pre X (m + (e + 2))) cx cy nz cz X.length hbz hby hc D hk64 rfl rfl hk' rfl rfl rfl
        (by rwa [show e + 2 - 1 = e + 1 by omega] at hV) DU rfl hnx hnc (by omega) (by omega) rfl ?_ hz (by omega) hczm hnz hcy).mono fun ee w' ⟨a, Z', X', he, hl, ha, hv, hN, hd⟩ => ⟨a, Z', X', he, hl, by omega, hv, hN, hd⟩
      intro r hr
      subst hr
      have h2 : val y * pw r ≤ pw (e + 2) * pw r := Int.mul_le_mul_of_nonneg_right (by omega) (by have := pw_pos r; omega)
      rw [← pw_add, show e + 2 + r = r + 1 + (e + 2) - 1 by omega] at h2
      omega

end Go.Proofs.Qxb6620824a
