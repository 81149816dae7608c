/-
  SLICES OF WORDS IN MEMORY: 'Blk': a block of the call's own, known whole; 'Sl': a slice that is read.
-/
import Derived.Test.Qxb6620824aRows
import Derived.Test.Qxb6620824aVal
import Derived.WalkKit
import Derived.WalkSpells
import Derived.Deep.Draws
import Derived.Deep.OwnRows
import Derived.Deep.Light
import Derived.Deep.QuietTactic
import Derived.BigQuiet
import Derived.Deep.RegionHeld3
set_option linter.unusedVariables false
namespace Go.Proofs.Qxb6620824a
open Go.RowKit Plain

def words (l : List Int) : Array Value := (l.map (Value.int .u64)).toArray
/-- Block b holds the words l, and nothing else; none is frozen. -/
def Blk (w : World) (b : Nat) (l : List Int) : Prop := w.heap[b]? = some (.cells (words l) 39 (0, 0))

theorem words_get (l : List Int) (k : Nat) (h : k < l.length) : (words l)[k]? = some (.int .u64 (nth l k)) := by
  unfold words nth
  simp [List.getD_eq_getElem?_getD, List.getElem?_eq_getElem h]
theorem words_set (l : List Int) (k : Nat) (v : Int) : (words l).setIfInBounds k (.int .u64 v) = words (l.set k v) := by
  unfold words
  simp [List.map_set]
theorem Blk.cell {w : World} {b : Nat} {l : List Int} (h : Blk w b l) {k : Nat} (hk : k < l.length) : w.cell? ⟨b, k, none⟩ = some (.int .u64 (nth l k)) := by
  unfold Blk at h
  simp [World.cell?, h, words_get l k hk]
theorem Blk.free {w : World} {b : Nat} {l : List Int} (h : Blk w b l) (k : Nat) : w.frozen? ⟨b, k, none⟩ = false := by
  unfold Blk at h
  simp [World.frozen?, h]
theorem Blk.lt {w : World} {b : Nat} {l : List Int} (h : Blk w b l) : b < w.heap.size := by
  unfold Blk at h
  exact (Array.getElem?_eq_some_iff.1 h).1
theorem Blk.set {w : World} {b : Nat} {l : List Int} (h : Blk w b l) (k : Nat) (v : Int) : Blk (w.setCell ⟨b, k, none⟩ (.int .u64 v)) b (l.set k v) := by
  unfold Blk at h ⊢
  simp [World.setCell, Array.getElem?_modify, h, words_set]
theorem Blk.drew {w : World} {b : Nat} {l : List Int} (h : Blk w b l) : Blk w.drew b l := h
theorem Blk.drewN {w : World} {b : Nat} {l : List Int} (h : Blk w b l) (n : Nat) : Blk (w.drewN n) b l := h
theorem Blk.alloc {w : World} {b : Nat} {l : List Int} (h : Blk w b l) (o : Obj) : Blk (w.alloc o) b l := by
  have := h.lt
  unfold Blk at h ⊢
  rw [Below.heap_alloc _ _ _ this]; exact h
theorem Blk.other {w : World} {b : Nat} {l : List Int} (h : Blk w b l) {a : Addr} (ha : b ≠ a.block) (v : Value) : Blk (w.setCell a v) b l := by
  unfold Blk at h ⊢
  rw [Below.heap_setCell _ _ _ _ ha]; exact h
theorem Blk.below {B : Nat} {w w' : World} {b : Nat} {l : List Int} (h : Blk w b l) (hb : Below B w w') (hlt : b < B) : Blk w' b l := (hb.block b hlt).trans h
theorem words_made (n : Nat) : madeCells #[Value.int .u64 0] n = words (List.replicate n 0) := by
  apply Array.toList_inj.1
  rw [toList_madeCells_one]
  simp [words]
theorem Blk.made (w : World) (n : Nat) : Blk (w.alloc (.cells (madeCells #[Value.int .u64 0] n) 39)) w.heap.size (List.replicate n 0) := by
  unfold Blk
  rw [words_made]
  show (w.heap.push _)[w.heap.size]? = _
  simp

theorem Below.drewN' {B : Nat} {a w : World} (h : Below B a w) (n : Nat) : Below B a (w.drewN n) := ⟨h.os, h.tape, h.output, h.size, h.block⟩

/-- A slice that is read: n words, l; its block lies below 'base'. -/
structure Sl (base : Nat) (w : World) (a : Option Addr) (n : Nat) (l : List Int) : Prop where
  len : l.length = n
  word : Words l
  lies : n = 0 ∨ ∃ b off, a = some ⟨b, off, none⟩ ∧ b < base ∧ ∀ j, j < n → w.cell? ⟨b, off + j, none⟩ = some (.int .u64 (nth l j))

theorem Sl.below {base : Nat} {w w' : World} {a : Option Addr} {n : Nat} {l : List Int} (h : Sl base w a n l) (hb : Below base w w') : Sl base w' a n l := by
  refine ⟨h.len, h.word, h.lies.elim .inl fun ⟨b, off, e, hlt, hc⟩ => .inr ⟨b, off, e, hlt, fun j hj => ?_⟩⟩
  rw [hb.cell (p := ⟨b, off + j, none⟩) hlt]; exact hc j hj
theorem Sl.mono {base base' : Nat} {w : World} {a : Option Addr} {n : Nat} {l : List Int} (h : Sl base w a n l) (hb : base ≤ base') : Sl base' w a n l :=
  ⟨h.len, h.word, h.lies.elim .inl fun ⟨b, off, e, hlt, hc⟩ => .inr ⟨b, off, e, by omega, hc⟩⟩
theorem Sl.drewN {base : Nat} {w : World} {a : Option Addr} {n : Nat} {l : List Int} (h : Sl base w a n l) (m : Nat) : Sl base (w.drewN m) a n l := ⟨h.len, h.word, h.lies⟩
theorem Sl.at {base : Nat} {w : World} {a : Option Addr} {n : Nat} {l : List Int} (h : Sl base w a n l) {k : Nat} (hk : k < n) : ∃ b off, a = some ⟨b, off, none⟩ ∧ b < base ∧ ∀ j, j < n → w.cell? ⟨b, off + j, none⟩ = some (.int .u64 (nth l j)) := by
  rcases h.lies with h0 | h
  · omega
  · exact h
theorem Sl.of_blk {base : Nat} {w : World} {b : Nat} {L : List Int} (h : Blk w b L) (hlt : b < base) (hw : Words L) (n : Nat) (hn : n ≤ L.length) : Sl base w (some ⟨b, 0, none⟩) n (L.take n) := by
  refine ⟨by rw [List.length_take]; omega, hw.take n, .inr ⟨b, 0, rfl, hlt, fun j hj => ?_⟩⟩
  rw [Nat.zero_add, nth_take L n j hj]
  exact h.cell (by omega)

theorem info39 : (Try.prog.info? 39).map (fun i => (i.zero, i.size, i.bytes)) = some (some (.int .u64 0), 1, 8) := by kernel_rfl
/-- make([]big.Word, n). -/
theorem make_run (n : Nat) (h : n ≤ 1000000) (w : World) :
    (Instr.makeSlice 22 (.int .i64 (n : Int)) (.int .i64 (n : Int))).run Try.prog w = .ok (.slice (some ⟨w.heap.size, 0, none⟩) n n) (w.alloc (.cells (madeCells #[Value.int .u64 0] n) 39)) :=
  run_make_row' 22 39 (.int .u64 0) 8 Try.underlying22 info39 rfl .i64 .i64 n (by omega) (by omega) w

end Go.Proofs.Qxb6620824a
