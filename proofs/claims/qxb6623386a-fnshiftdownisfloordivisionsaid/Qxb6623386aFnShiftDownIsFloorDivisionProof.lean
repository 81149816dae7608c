/-
  THE PROOF OF 'Rows.FnShiftDownIsFloorDivisionSaid': an array of three words by value, a word.
-/
import Derived.Test.Qxb6623386aRows
import Derived.Test.Qxb6623386aWalk
import Derived.WalkKit
import Derived.ProofKit
import Derived.OpenShut
import Derived.ShutString
import Derived.ChangeSame
import Derived.JoinedOf
import Derived.JoinedAt
import Derived.RowKit3
import Derived.Laws.IdiomArrays
namespace Go.Proofs.Qxb6623386a.fnShiftDownIsFloorDivision
open Go.ChangeShapes Go.WideShapes Go.ChangeAt Go.RowKit
set_option linter.unusedVariables false

theorem own : ownKnob Try.prog.godebug = none := by kernel_rfl
theorem cells22 : Try.prog.cellsOf 22 = 1 := by kernel_rfl
theorem cells23 : Try.prog.cellsOf 23 = 3 := by kernel_rfl

theorem list3 {α : Type} (l : List α) (h : (⟨l⟩ : Array α).size = 3) : ∃ a b c, l = [a, b, c] := by
  match l, h with
  | [a, b, c], _ => exact ⟨a, b, c, rfl⟩

theorem word_of {x : Int} (h : (Lit.int .u64 x).wf = true) : Word x := by
  simp [Lit.wf, IntKind.min, IntKind.max, IntKind.signed, IntKind.bits] at h
  exact ⟨by omega, by omega⟩

theorem walk (d0 d1 d2 k : Int) (w0 : (Lit.int .u64 d0).wf = true) (w1 : (Lit.int .u64 d1).wf = true) (w2 : (Lit.int .u64 d2).wf = true) (wk : (Lit.int .u64 k).wf = true) (w : World) :
    Calls Try.prog 3 #[.agg #[.int .u64 d0, .int .u64 d1, .int .u64 d2], .int .u64 k] w fun e w' => e = .returned (.bool true) ∧ Grown w w' := by
  obtain ⟨k, rfl⟩ := Int.eq_ofNat_of_zero_le (word_of wk).1
  exact law d0 d1 d2 k (word_of w0) (word_of w1) (word_of w2) w

set_option maxHeartbeats 400000 in
set_option maxRecDepth 100000 in
theorem lifted (os : Os) (started : os.Started) (H : Type) (enc : TypeId × Value → H) :
    ReturnsInHanded {} Try.checked os 3 .any (Rows.fnShiftDownIsFloorDivisionSpec.pre6 enc Try.prog Try.f3 Rows.fnShiftDownIsFloorDivisionRow.domain false) (Rows.fnShiftDownIsFloorDivisionSpec.post enc Try.prog Try.f3 false true false false) := by
  refine returnsInHanded_of_change (C := Try.checked) own started (by kernel_rfl) Try.func3
    (ChangeSpec.witness6 (enc := enc) (C := Try.checked) false ⟨#[], #[.agg #[.int .u64 0, .int .u64 0, .int .u64 0], .int .u64 0], []⟩ 8 (by kernel_rfl) (by kernel_rfl) (by kernel_rfl) (by kernel_rfl)) ?_
  intro W base args ds gs before hval0 hW hcnd _
  have hval : ∀ (j : Nat) t v, Try.f3.params[j]? = some t → args[j]? = some v → Value.okWide Try.prog W .any base t v := hval0
  have hW' := hW
  obtain ⟨p, q, hA0, hV, rfl, hfz, hnd⟩ := hW
  have hA : DataW.TrodAll enc Try.prog W 0 (fun _ => true) true Try.f3.params.toList args.toList ds p := hA0
  rw [Try.params3] at hA hval
  obtain ⟨v0, v1, d0, d1, p0, p1, rfl, rfl, rfl, h0, h1⟩ := trodAll_two hA
  obtain ⟨rfl, rfl⟩ := trodVars_none hV
  obtain ⟨cs, rfl, hsz, _⟩ : ∃ cs, v0 = .agg cs ∧ cs.size = Try.prog.cellsOf 23 ∧ Row.okWide Try.prog W .any base 23 cs := by
    have := hval 0 23 v0 rfl rfl
    simpa [Value.okWide, Try.underlying23] using this
  obtain ⟨k, rfl, rfl, rfl, wk⟩ := open_int Try.underlying24 (hval 1 24 v1 rfl rfl) h1
  rw [cells23] at hsz
  obtain ⟨l⟩ := cs
  obtain ⟨c0, c1, c2, rfl⟩ := list3 l hsz
  obtain ⟨fuel, hf⟩ := h0
  obtain ⟨y0, y1, y2, m, hx, hy0, hy1, hy2⟩ := trod_array3 Try.underlying23 cells22 hf
  obtain ⟨x0, e0, rfl, w0⟩ := DataW.trod_int Try.underlying22 hy0
  obtain ⟨x1, e1, rfl, w1⟩ := DataW.trod_int Try.underlying22 hy1
  obtain ⟨x2, e2, rfl, w2⟩ := DataW.trod_int Try.underlying22 hy2
  simp at e0 e1 e2
  subst e0 e1 e2
  simp only [Prod.mk.injEq] at hx
  obtain ⟨rfl, rfl⟩ := hx
  clear hA0 hval0
  simp only [List.append_nil] at hW'
  refine (walk x0 x1 x2 k w0 w1 w2 wk W).mono fun e W' ⟨he, hg⟩ => ?_
  subst he
  have rdA : ∀ sp : Nat → Bool, DataW.Trod enc Try.prog W' 0 sp true 23 (.agg #[.int .u64 x0, .int .u64 x1, .int .u64 x2]) (DataW.agg [.lit (.int .u64 x0), .lit (.int .u64 x1), .lit (.int .u64 x2)]) [] := fun sp => ⟨2, by simp [DataW.trod, Value.cells, Try.underlying23, Try.underlying22, cells23, cells22, w0, w1, w2, show List.range 3 = [0, 1, 2] from rfl]⟩
  exact ⟨_, rfl, post_of_same (pa := []) (pv := []) hW' (fun _ _ _ => (trodAll_cons_mk (shut_bool Try.underlying4 _) trodAll_mk0)) (fun sp _ => (trodAll_cons_mk (rdA sp) (trodAll_cons_mk (shut_int Try.underlying24 wk) trodAll_mk0))) (fun _ _ => rfl) rfl
    (hg.frame _) hg.2.1 (ok_one (by kernel_rfl) rfl (okWide_bool_mk Try.underlying4 _))⟩

theorem over : Rows.fnShiftDownIsFloorDivisionRow.holds Try.pinned (OpenSpec.ofChange Rows.fnShiftDownIsFloorDivisionSpec) :=
  OpenClaim.holds_of_wide 3 Try.f3 rfl rfl rfl rfl rfl rfl rfl ⟨rfl, rfl, rfl, rfl, rfl⟩ rfl rfl rfl rfl rfl (by kernel_rfl) Try.func3 (by kernel_rfl)
    (of_decide_eq_true (by kernel_rfl)) (by unfold Func.isWrapper; first | (rw [if_pos (by decide +kernel)]; kernel_rfl) | (rw [if_neg (by decide +kernel)]; exact ⟨rfl, rfl⟩))
    (fun os started H enc _ => lifted os started H enc)

/-- THE STATEMENT. -/
theorem proved : Rows.FnShiftDownIsFloorDivisionSaid :=
  over
#print axioms proved
end Go.Proofs.Qxb6623386a.fnShiftDownIsFloorDivision
