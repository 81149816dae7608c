/-
  No cell of these rows narrows 'for every input' (looked for: loops, veiled, ifaces, maps, wideKeys, modest, calm, conditions, laid).
  DERIVED. THE GIVEN ROWS OF THIS SEAT. 1 by the template 'for every input the law returns true; each argument reads behind the call as it read before'; 0 by the template 'total and deterministic' (their statements: Qxb6623340aTotals.lean).
  GIVEN WITH THE SEED: the statements are not yours to turn. If you find one false, say at which input.
  Laid BY PROGRAM, IN A SANDBOX (cutbox-rows.mjs): the forced cells as the released guide's own fill.sh prints them over the translation 0ba339fc539d5a2e… (all of the seat's roots in one cut). By AI agents, Wed Nov 11 2026. No macro, syntax, notation, axiom, sorry.
-/
import Derived.Test.Qxb6623340aChecked
import GoSem.Claim
import GoSem.ClaimJoined
import GoSem.ClaimMapViews
import Derived.JoinedTies
import Derived.KernelRfl
namespace Go.Proofs.Qxb6623340a
/- THE CELL 'sum', in the pinned program and in every row, IS THE sha256 OF THE DUMP (.gsa) THAT Qxb6623340aProg.lean LOADS. Nothing in Lean hashes anything: it is a label: what it is worth is what the hold of that sum in a sandbox is worth. -/
noncomputable def Try.pinned : Pinned := { name := "qxb6623340a", sum := "0ba339fc539d5a2ee91568beb2f62280e5a9addc7fdcb511e59a0ad3512ac3d6", checked := Try.checked }
namespace Rows
def none {H : Type} : Left H := { results := [], args := [] }

/-- 'zzlaws_pkg_benefit_b1.FnRuleNameTellsRulesApart': WHATEVER THE INPUT: true; the input reads as it did. -/
def fnRuleNameTellsRulesApartSpec : ChangeSpec := { name := "fnRuleNameTellsRulesApart", fn := fun _ => fun
  | [d1, d2, d3, d4] => { results := [.lit (.bool true)], args := [d1, d2, d3, d4] }
  | _ => none }
def fnRuleNameTellsRulesApartRow : OpenClaim := { program := "qxb6623340a", sum := "0ba339fc539d5a2ee91568beb2f62280e5a9addc7fdcb511e59a0ad3512ac3d6", func := "example.com/vestline/vestline/zzlaws_pkg_benefit_b1.FnRuleNameTellsRulesApart", spec := "fnRuleNameTellsRulesApart", apart := false }
def FnRuleNameTellsRulesApartSaid : Prop := fnRuleNameTellsRulesApartRow.holds Try.pinned (OpenSpec.ofChange fnRuleNameTellsRulesApartSpec)

/-- ITS FALSE NEIGHBOUR: 'it returns false'. Refute it at one input. -/
def fnRuleNameTellsRulesApartWrong : ChangeSpec := { name := "fnRuleNameTellsRulesApart", fn := fun _ => fun
  | [d1, d2, d3, d4] => { results := [.lit (.bool false)], args := [d1, d2, d3, d4] }
  | _ => none }
def FnRuleNameTellsRulesApartWrongFalsely : Prop := fnRuleNameTellsRulesApartRow.holds Try.pinned (OpenSpec.ofChange fnRuleNameTellsRulesApartWrong)

end Rows
end Go.Proofs.Qxb6623340a
