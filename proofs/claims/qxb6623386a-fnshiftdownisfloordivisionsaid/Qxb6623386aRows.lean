/-
  No cell of these rows narrows 'for every input' (looked for: loops, veiled, ifaces, maps, wideKeys, modest, calm, conditions, laid).
  DERIVED. THE GIVEN ROWS OF THIS SEAT. 1 by the template 'for every input the law returns true; each argument reads behind the call as it read before'; 0 by the template 'total and deterministic' (their statements: Qxb6623386aTotals.lean).
  GIVEN WITH THE SEED: the statements are not yours to turn. If you find one false, say at which input.
  Laid BY PROGRAM, IN A SANDBOX (cutbox-rows.mjs): the forced cells as the released guide's own fill.sh prints them over the translation 7be8bbfa651373c2… (all of the seat's roots in one cut). By AI agents, Wed Nov 11 2026. No macro, syntax, notation, axiom, sorry.
-/
import Derived.Test.Qxb6623386aChecked
import GoSem.Claim
import GoSem.ClaimJoined
import GoSem.ClaimMapViews
import Derived.JoinedTies
import Derived.KernelRfl
namespace Go.Proofs.Qxb6623386a
/- THE CELL 'sum', in the pinned program and in every row, IS THE sha256 OF THE DUMP (.gsa) THAT Qxb6623386aProg.lean LOADS. Nothing in Lean hashes anything: it is a label: what it is worth is what the hold of that sum in a sandbox is worth. -/
noncomputable def Try.pinned : Pinned := { name := "qxb6623386a", sum := "7be8bbfa651373c2e4a0093f1805aa36c327c733cd5af9bd5aa30e73cb658778", checked := Try.checked }
namespace Rows
def none {H : Type} : Left H := { results := [], args := [] }

/-- 'zzlaws_root_b1.FnShiftDownIsFloorDivision': WHATEVER THE INPUT: true; the input reads as it did. -/
def fnShiftDownIsFloorDivisionSpec : ChangeSpec := { name := "fnShiftDownIsFloorDivision", fn := fun _ => fun
  | [d1, d2] => { results := [.lit (.bool true)], args := [d1, d2] }
  | _ => none }
def fnShiftDownIsFloorDivisionRow : OpenClaim := { program := "qxb6623386a", sum := "7be8bbfa651373c2e4a0093f1805aa36c327c733cd5af9bd5aa30e73cb658778", func := "example.com/ringfinger/ringfinger/zzlaws_root_b1.FnShiftDownIsFloorDivision", spec := "fnShiftDownIsFloorDivision", inPlace := ["math/bits.Add64", "math/bits.Sub64"], apart := false }
def FnShiftDownIsFloorDivisionSaid : Prop := fnShiftDownIsFloorDivisionRow.holds Try.pinned (OpenSpec.ofChange fnShiftDownIsFloorDivisionSpec)

/-- ITS FALSE NEIGHBOUR: 'it returns false'. Refute it at one input. -/
def fnShiftDownIsFloorDivisionWrong : ChangeSpec := { name := "fnShiftDownIsFloorDivision", fn := fun _ => fun
  | [d1, d2] => { results := [.lit (.bool false)], args := [d1, d2] }
  | _ => none }
def FnShiftDownIsFloorDivisionWrongFalsely : Prop := fnShiftDownIsFloorDivisionRow.holds Try.pinned (OpenSpec.ofChange fnShiftDownIsFloorDivisionWrong)

end Rows
end Go.Proofs.Qxb6623386a
