/-
  nat.MulAdd: its contract; modelMulAdd's.
-/
import Derived.Test.Qxb6620824aMulAdd
import Derived.Test.Qxb6620824aMulAdd0
import Derived.Test.Qxb6620824aModelMul2
set_option linter.unusedVariables false
namespace Go.Proofs.Qxb6620824a
open Go.RowKit Plain

theorem val_nil_of {base : Nat} {w : World} {a : Option Addr} {l : List Int} (S : Sl base w a 0 l) : l = [] := List.length_eq_zero_iff.1 S.len

/-- nat.MulAdd: x y + a, without a zero word on top, in z's own row. -/
theorem mulAdd {w : World} {bz : Nat} {ax ay aa : Option Addr} {nx ny na : Nat} {x y a Z : List Int} (cx cy ca nz cz : Nat)
    (Sx : Sl bz w ax nx x) (Sy : Sl bz w ay ny y) (Sa : Sl bz w aa na a) (hx : nx ≤ 10000) (hy : ny ≤ 10000) (ha : na ≤ 10000) (Nx : Norm x) (Ny : Norm y) (Na : Norm a)
    (hca : na ≤ ca) (hnil : aa = none → ca = 0) (HB : Step bz bz w w w.heap.size Z) (hz : Z.length = cz) (h1 : nx + ny < cz) (h2 : na < cz) (hczm : cz ≤ 1000000) (hnz : nz ≤ cz) :
    Calls Try.prog 20 #[.slice (some ⟨bz, 0, none⟩) nz cz, .slice ax nx cx, .slice ay ny cy, .slice aa na ca] w fun e w' => ∃ m Z', e = .returned (.slice (some ⟨bz, 0, none⟩) m cz) ∧ Z'.length = cz ∧ m ≤ cz ∧ val (Z'.take m) = val x * val y + val a ∧ Norm (Z'.take m) ∧ Step bz bz w w' w.heap.size Z' := by
  by_cases h0 : nx = 0 ∨ ny = 0
  · refine (mulAdd_nil cx cy ca nz cz Sa hx hy ha h0 HB hz h2 hczm hnz).mono fun e w' ⟨Z', he, hl, ht, hs⟩ => ⟨na, Z', he, hl, by omega, ?_, by rw [ht]; exact Na, hs⟩
    rw [ht]
    rcases h0 with rfl | rfl
    · rw [val_nil_of Sx]; simp [val]
    · rw [val_nil_of Sy]; simp [val]
  · by_cases hle : ny ≤ nx
    · obtain ⟨low, hlow⟩ : ∃ low : Nat, min (na : Int) (nx : Int) = (low : Int) := ⟨min na nx, by omega⟩
      obtain ⟨M, hM⟩ : ∃ M : Nat, max ((nx + ny : Nat) : Int) (na : Int) = (M : Int) := ⟨max (nx + ny) na, by omega⟩
      exact mulAdd_walk (n := nx + ny) (low := low) (M := M) (A1 := a.take low) cx cy ca nz cz (nx + ny - 1) Sx Sy Sa hx hy ha hle (by omega) (.inl ⟨rfl, rfl, rfl, rfl, rfl, rfl⟩) hlow hM rfl HB hz rfl (by omega) (by omega) hczm hnz Nx Ny
        (slice_low aa na ca low (by omega) hnil)
    · obtain ⟨low, hlow⟩ : ∃ low : Nat, min (na : Int) (ny : Int) = (low : Int) := ⟨min na ny, by omega⟩
      obtain ⟨M, hM⟩ : ∃ M : Nat, max ((ny + nx : Nat) : Int) (na : Int) = (M : Int) := ⟨max (ny + nx) na, by omega⟩
      have h := mulAdd_walk (n := ny + nx) (low := low) (M := M) (A1 := a.take low) (a1 := ax) (a2 := ay) (n1 := nx) (n2 := ny) (c1 := cx) (c2 := cy) cy cx ca nz cz (ny + nx - 1) Sy Sx Sa hy hx ha (by omega) (by omega) (.inr ⟨rfl, rfl, rfl, rfl, rfl, rfl, by omega⟩) hlow hM rfl HB hz rfl (by omega) (by omega) hczm hnz Ny Nx
        (slice_low aa na ca low (by omega) hnil)
      rw [Int.mul_comm (val y)] at h
      exact h

/-- modelMulAdd. -/
theorem modelMulAdd {w : World} {ax ay aa : Option Addr} {nx ny na : Nat} {x y a : List Int} (cx cy ca : Nat)
    (Sx : Sl w.heap.size w ax nx x) (Sy : Sl w.heap.size w ay ny y) (Sa : Sl w.heap.size w aa na a) (hx : nx ≤ 1000) (hy : ny ≤ 1000) (ha : na ≤ 1000) :
    Calls Try.prog 19 #[.slice ax nx cx, .slice ay ny cy, .slice aa na ca] w fun e w' => ∃ m c L, e = .returned (.slice (some ⟨w.heap.size, 0, none⟩) m c) ∧ m ≤ L.length ∧ val (L.take m) = val x * val y + val a ∧ Norm (L.take m) ∧ Step w.heap.size w.heap.size w w' (w.heap.size + 1) L := by
  by_cases hle : nx + ny < na
  · exact (modelMulAdd_a cx cy ca na Sx Sy Sa hx hy ha rfl hle).mono fun e w' ⟨m, L, h⟩ => ⟨m, _, L, h⟩
  · exact (modelMulAdd_xy cx cy ca (nx + ny) Sx Sy Sa hx hy ha rfl (by omega)).mono fun e w' ⟨m, L, h⟩ => ⟨m, _, L, h⟩

end Go.Proofs.Qxb6620824a
