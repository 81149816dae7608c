/-
  THE SMALL FUNCTIONS THAT TRIM OR MAKE A ROW: trimWords, trim, bufferFrom, cloneWords.
-/
import Derived.Test.Qxb6620824aSmall
set_option linter.unusedVariables false
namespace Go.Proofs.Qxb6620824a
open Go.RowKit Plain

def lenOf : Value → Nat
  | .slice _ n _ => n
  | _ => 0

/-- m is the length of the first n words of L without the zeros on top. -/
structure Trim (L : List Int) (n m : Nat) : Prop where
  le : m ≤ n
  zero : ∀ j, m ≤ j → j < n → nth L j = 0
  top : m = 0 ∨ nth L (m - 1) ≠ 0

theorem Trim.pre {L : List Int} {n m : Nat} (h : Trim L n m) : Plain.pre L m = Plain.pre L n := (pre_zeros L m n h.le h.zero).symm

set_option maxHeartbeats 400000 in
theorem trimWords {w : World} {b : Nat} {L : List Int} (n cap : Nat) (hB : Blk w b L) (h1 : n ≤ cap) (h2 : n ≤ L.length) (hc : cap ≤ 1000000) :
    Calls Try.prog 27 #[.slice (some ⟨b, 0, none⟩) n cap] w fun e w' => ∃ m, e = .returned (.slice (some ⟨b, 0, none⟩) m cap) ∧ w' = w ∧ Trim L n m := by
  go_enter Try.func27, Try.ntmps27
  go_wp2
  go_loop [3] (fun i => ∃ k : Nat, k ≤ n ∧ i = .int .i64 k ∧ ∀ j, k ≤ j → j < n → nth L j = 0) (fun i => (intOf i).toNat)
  case atStart => exact ⟨n, by omega, rfl, fun j h h' => by omega⟩
  case round =>
    obtain ⟨k, hk, rfl, hz⟩ := hrel
    have HZ : Hid _ := hz
    clear hz
    by_cases h0 : k = 0
    · subst h0
      have hd : decide ((0 : Int) < 0) = false := rfl
      go_wp2
      go_ret
      exact ⟨0, rfl, rfl, by omega, fun j _ h => HZ.out j (by omega) h, .inl rfl⟩
    · obtain ⟨m, rfl⟩ : ∃ m, k = m + 1 := ⟨k - 1, by omega⟩
      have hcell := hB.cell (k := m) (by omega)
      by_cases ht : nth L m = 0
      · have HT : Hid (nth L m = 0) := ht
        rw [ht] at hcell
        clear ht
        go_wp2
        go_round
        case rel => exact ⟨m, by omega, by go_num, fun j h h' => by
          by_cases e : j = m
          · rw [e]; exact HT.out
          · exact HZ.out j (by omega) h'⟩
        case measure => simp [intOf]
      · have hb : (nth L m == 0) = false := by simpa using ht
        go_wp2
        go_ret
        exact ⟨m + 1, rfl, rfl, by omega, HZ.out, .inr ht⟩

set_option maxHeartbeats 400000 in
theorem trim {w : World} {b : Nat} {L : List Int} (n cap : Nat) (hB : Blk w b L) (h1 : n ≤ cap) (h2 : n ≤ L.length) (hc : cap ≤ 1000000) :
    Calls Try.prog 38 #[.slice (some ⟨b, 0, none⟩) n cap] w fun e w' => ∃ m, e = .returned (.slice (some ⟨b, 0, none⟩) m cap) ∧ w' = w ∧ Trim L n m := by
  go_enter Try.func38, Try.ntmps38
  go_wp2
  go_loop [0] (fun v => ∃ k : Nat, k ≤ n ∧ v = .slice (some ⟨b, 0, none⟩) k cap ∧ ∀ j, k ≤ j → j < n → nth L j = 0) (fun v => lenOf v)
  case atStart => exact ⟨n, by omega, rfl, fun j h h' => by omega⟩
  case round =>
    obtain ⟨k, hk, rfl, hz⟩ := hrel
    have HZ : Hid _ := hz
    clear hz
    by_cases h0 : k = 0
    · subst h0
      have hd : decide ((0 : Int) < 0) = false := rfl
      go_wp2
      go_ret
      exact ⟨0, rfl, rfl, by omega, fun j _ h => HZ.out j (by omega) h, .inl rfl⟩
    · obtain ⟨m, rfl⟩ : ∃ m, k = m + 1 := ⟨k - 1, by omega⟩
      have hcell := hB.cell (k := m) (by omega)
      by_cases ht : nth L m = 0
      · have HT : Hid (nth L m = 0) := ht
        rw [ht] at hcell
        clear ht
        go_wp2
        go_round
        case rel => exact ⟨m, by omega, by go_num, fun j h h' => by
          by_cases e : j = m
          · rw [e]; exact HT.out
          · exact HZ.out j (by omega) h'⟩
        case measure => simp [lenOf]
      · have hb : (nth L m == 0) = false := by simpa using ht
        go_wp2
        go_ret
        exact ⟨m + 1, rfl, rfl, by omega, HZ.out, .inr ht⟩

/-- Only block b has turned; no block was made. -/
structure Turned (b : Nat) (w w' : World) : Prop where
  below : Below b w w'
  size : w'.heap.size = w.heap.size

/-- One word of the call's own block b is written; draws are made. -/
structure Step (B : Nat) (b : Nat) (w wr : World) (sz : Nat) (L : List Int) : Prop where
  blk : Blk wr b L
  below : Below B w wr
  size : wr.heap.size = sz
  word : Words L

theorem Step.set {B b : Nat} {w wr : World} {sz : Nat} {L : List Int} (h : Step B b w wr sz L) (hB : B ≤ b) (k : Nat) {v : Int} (hv : Word v) : Step B b w (wr.setCell ⟨b, k, none⟩ (.int .u64 v)) sz (L.set k v) :=
  ⟨h.blk.set k v, h.below.setCell (p := ⟨b, k, none⟩) hB _, by simp only [World.setCell, Array.size_modify]; exact h.size, h.word.set k hv⟩
theorem Step.drew {B b : Nat} {w wr : World} {sz : Nat} {L : List Int} (h : Step B b w wr sz L) : Step B b w wr.drew sz L := ⟨h.blk, h.below.drew, h.size, h.word⟩
theorem Step.drewN {B b : Nat} {w wr : World} {sz : Nat} {L : List Int} (h : Step B b w wr sz L) (n : Nat) : Step B b w (wr.drewN n) sz L := ⟨h.blk, Below.drewN' h.below n, h.size, h.word⟩

theorem words_replicate (n : Nat) : Words (List.replicate n 0) := by
  intro x hx
  obtain ⟨_, rfl⟩ := List.mem_replicate.1 hx
  exact word_zero

theorem Step.made (w : World) (n : Nat) : Step w.heap.size w.heap.size w (w.alloc (.cells (madeCells #[Value.int .u64 0] n) 39)) (w.heap.size + 1) (List.replicate n 0) :=
  ⟨Blk.made w n, (Below.refl _ _).alloc (Nat.le_refl _) _, by simp, words_replicate n⟩

set_option maxHeartbeats 400000 in
theorem bufferFrom {w : World} {a : Option Addr} {n : Nat} {l : List Int} (cap m : Nat) (S : Sl w.heap.size w a n l) (hn : n ≤ 100000) (hm : m ≤ 100000) :
    Calls Try.prog 12 #[.slice a n cap, .int .i64 m] w fun e w' => ∃ s L, e = .returned (.slice (some ⟨w.heap.size, 0, none⟩) s s) ∧ m ≤ s ∧ s ≤ 100000 ∧ L.length = s ∧ Step w.heap.size w.heap.size w w' (w.heap.size + 1) L := by
  by_cases hle : n ≤ m
  · have hmk := make_run m (by omega)
    have M := Step.made w m
    go_enter Try.func12, Try.ntmps12
    go_wp2
    clear hmk
    go_loopw [7] (fun i wr => ∃ (k : Nat) (L : List Int), k ≤ n ∧ i = .int .i64 k ∧ L.length = m ∧ Step w.heap.size w.heap.size w wr (w.heap.size + 1) L) (fun i _ => n - (intOf i).toNat)
    case atStart => exact ⟨0, _, by omega, rfl, List.length_replicate, M⟩
    case round =>
      clear M
      obtain ⟨k, L, hk, rfl, hL, ST⟩ := hrel
      have HL : Hid (L.length = m) := hL
      by_cases hlt : k < n
      · obtain ⟨b, off, rfl, hb, hc⟩ := (S.below ST.below).at hlt
        have c1 := hc k hlt
        have i1 : (k : Int) < (n : Int) := by omega
        have c2 := ST.blk.cell (k := k) (by omega)
        have c3 := ST.blk.free k
        have R := ST.set (Nat.le_refl _) k (nth_word S.word k)
        clear hc S ST hL
        go_wp2
        go_roundw
        case rel => exact ⟨k + 1, _, by omega, by go_num, by rw [List.length_set]; exact HL.out, R⟩
        case measure => simp [intOf]; omega
      · clear hL
        go_wp2
        go_ret
        exact ⟨m, L, rfl, by omega, by omega, HL.out, ST⟩
  · have hmk := make_run n (by omega)
    have M := Step.made w n
    go_enter Try.func12, Try.ntmps12
    go_wp2
    clear hmk
    go_loopw [7] (fun i wr => ∃ (k : Nat) (L : List Int), k ≤ n ∧ i = .int .i64 k ∧ L.length = n ∧ Step w.heap.size w.heap.size w wr (w.heap.size + 1) L) (fun i _ => n - (intOf i).toNat)
    case atStart => exact ⟨0, _, by omega, rfl, List.length_replicate, M⟩
    case round =>
      clear M
      obtain ⟨k, L, hk, rfl, hL, ST⟩ := hrel
      have HL : Hid (L.length = n) := hL
      by_cases hlt : k < n
      · obtain ⟨b, off, rfl, hb, hc⟩ := (S.below ST.below).at hlt
        have c1 := hc k hlt
        have i1 : (k : Int) < (n : Int) := by omega
        have c2 := ST.blk.cell (k := k) (by omega)
        have c3 := ST.blk.free k
        have R := ST.set (Nat.le_refl _) k (nth_word S.word k)
        clear hc S ST hL
        go_wp2
        go_roundw
        case rel => exact ⟨k + 1, _, by omega, by go_num, by rw [List.length_set]; exact HL.out, R⟩
        case measure => simp [intOf]; omega
      · clear hL
        go_wp2
        go_ret
        exact ⟨n, L, rfl, by omega, by omega, HL.out, ST⟩

theorem set_take (l L : List Int) (k : Nat) (h : k < l.length) (hL : L.length = l.length) (e : ∀ j, j < k → nth L j = nth l j) : ∀ j, j < k + 1 → nth (L.set k (nth l k)) j = nth l j := by
  intro j hj
  by_cases hjk : j = k
  · subst hjk; exact nth_set_same _ _ _ (by omega)
  · rw [nth_set_other _ _ _ _ hjk]; exact e j (by omega)

set_option maxHeartbeats 400000 in
theorem cloneWords {w : World} {a : Option Addr} {n : Nat} {l : List Int} (cap : Nat) (S : Sl w.heap.size w a n l) (hn : n ≤ 100000) :
    Calls Try.prog 11 #[.slice a n cap] w fun e w' => e = .returned (.slice (some ⟨w.heap.size, 0, none⟩) n n) ∧ Step w.heap.size w.heap.size w w' (w.heap.size + 1) l := by
  have hmk := make_run n (by omega)
  have M := Step.made w n
  have HS : Hid (l.length = n) := S.len
  go_enter Try.func11, Try.ntmps11
  go_wp2
  clear hmk
  go_loopw [4] (fun i wr => ∃ (k : Nat) (L : List Int), k ≤ n ∧ i = .int .i64 k ∧ L.length = n ∧ (∀ j, j < k → nth L j = nth l j) ∧ Step w.heap.size w.heap.size w wr (w.heap.size + 1) L) (fun i _ => n - (intOf i).toNat)
  case atStart => exact ⟨0, _, by omega, rfl, List.length_replicate, fun j hj => by omega, M⟩
  case round =>
    clear M
    obtain ⟨k, L, hk, rfl, hL, hE, ST⟩ := hrel
    have HL : Hid (L.length = n) := hL
    have HE : Hid _ := hE
    clear hE
    by_cases hlt : k < n
    · obtain ⟨b, off, rfl, hb, hc⟩ := (S.below ST.below).at hlt
      have c1 := hc k hlt
      have i1 : (k : Int) < (n : Int) := by omega
      have c2 := ST.blk.cell (k := k) (by omega)
      have c3 := ST.blk.free k
      have R := ST.set (Nat.le_refl _) k (nth_word S.word k)
      clear hc S ST hL
      go_wp2
      go_roundw
      case rel => exact ⟨k + 1, _, by omega, by go_num, by rw [List.length_set]; exact HL.out, set_take l L k (by rw [HS.out]; exact hlt) (by rw [HL.out, HS.out]) HE.out, R⟩
      case measure => simp [intOf]; omega
    · obtain rfl : L = l := eq_step L l n HL.out HS.out fun j hj => HE.out j (by omega)
      clear hL
      go_wp2
      go_ret
      exact ⟨rfl, ST⟩

end Go.Proofs.Qxb6620824a
