/-
  No cell of these rows narrows 'for every input' (looked for: loops, veiled, ifaces, maps, wideKeys, modest, calm, conditions, laid).
  DERIVED. THE GIVEN ROWS OF THIS SEAT. 1 by the template 'for every input the law returns true; each argument reads behind the call as it read before'; 0 by the template 'total and deterministic' (their statements: Qxb6623399aTotals.lean).
  GIVEN WITH THE SEED: the statements are not yours to turn. If you find one false, say at which input.
  Laid BY PROGRAM, IN A SANDBOX (cutbox-rows.mjs): the forced cells as the released guide's own fill.sh prints them over the translation 506e2d19ce0450fe… (all of the seat's roots in one cut). By AI agents, Wed Nov 11 2026. No macro, syntax, notation, axiom, sorry.
-/
import Derived.Test.Qxb6623399aChecked
import GoSem.Claim
import GoSem.ClaimJoined
import GoSem.ClaimMapViews
import Derived.JoinedTies
import Derived.KernelRfl
namespace Go.Proofs.Qxb6623399a
/- THE CELL 'sum', in the pinned program and in every row, IS THE sha256 OF THE DUMP (.gsa) THAT Qxb6623399aProg.lean LOADS. Nothing in Lean hashes anything: it is a label: what it is worth is what the hold of that sum in a sandbox is worth. -/
noncomputable def Try.pinned : Pinned := { name := "qxb6623399a", sum := "506e2d19ce0450fea1ee6331db95f7210982504b366447a092d5d4baba903d27", checked := Try.checked }
namespace Rows
def none {H : Type} : Left H := { results := [], args := [] }

/-- 'zzlaws_pkg_calendar_b1.FnNumberJoinsAtAnyCut': WHATEVER THE INPUT: true; the input reads as it did. -/
def fnNumberJoinsAtAnyCutSpec : ChangeSpec := { name := "fnNumberJoinsAtAnyCut", fn := fun _ => fun
  | [d1, d2] => { results := [.lit (.bool true)], args := [d1, d2] }
  | _ => none }
def fnNumberJoinsAtAnyCutRow : OpenClaim := { program := "qxb6623399a", sum := "506e2d19ce0450fea1ee6331db95f7210982504b366447a092d5d4baba903d27", func := "example.com/tierwright/tierwright/zzlaws_pkg_calendar_b1.FnNumberJoinsAtAnyCut", spec := "fnNumberJoinsAtAnyCut", apart := false }
def FnNumberJoinsAtAnyCutSaid : Prop := fnNumberJoinsAtAnyCutRow.holds Try.pinned (OpenSpec.ofChange fnNumberJoinsAtAnyCutSpec)

/-- ITS FALSE NEIGHBOUR: 'it returns false'. Refute it at one input. -/
def fnNumberJoinsAtAnyCutWrong : ChangeSpec := { name := "fnNumberJoinsAtAnyCut", fn := fun _ => fun
  | [d1, d2] => { results := [.lit (.bool false)], args := [d1, d2] }
  | _ => none }
def FnNumberJoinsAtAnyCutWrongFalsely : Prop := fnNumberJoinsAtAnyCutRow.holds Try.pinned (OpenSpec.ofChange fnNumberJoinsAtAnyCutWrong)

end Rows
end Go.Proofs.Qxb6623399a
