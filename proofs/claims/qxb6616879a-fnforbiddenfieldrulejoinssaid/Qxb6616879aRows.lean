/-
  No cell of these rows narrows 'for every input' (looked for: loops, veiled, ifaces, maps, wideKeys, modest, calm, conditions, laid).
  DERIVED. THE GIVEN ROWS OF THIS SEAT. 2 by the template 'for every input the law returns true; each argument reads behind the call as it read before'; 0 by the template 'total and deterministic' (their statements: Qxb6616879aTotals.lean).
  GIVEN WITH THE SEED: the statements are not yours to turn. If you find one false, say at which input.
  Laid BY PROGRAM, IN A SANDBOX (cutbox-rows.mjs): the forced cells as the released guide's own fill.sh prints them over the translation ddde0777ce848b64… (all of the seat's roots in one cut). By AI agents, Wed Nov 11 2026. No macro, syntax, notation, axiom, sorry.
-/
import Derived.Test.Qxb6616879aChecked
import GoSem.Claim
import GoSem.ClaimJoined
import GoSem.ClaimMapViews
import Derived.JoinedTies
import Derived.KernelRfl
namespace Go.Proofs.Qxb6616879a
/- THE CELL 'sum', in the pinned program and in every row, IS THE sha256 OF THE DUMP (.gsa) THAT Qxb6616879aProg.lean LOADS. Nothing in Lean hashes anything: it is a label: what it is worth is what the hold of that sum in a sandbox is worth. -/
noncomputable def Try.pinned : Pinned := { name := "qxb6616879a", sum := "ddde0777ce848b64b2e33bb44b76da777a0cdddd31362771a63ccde9a6870023", checked := Try.checked }
namespace Rows
def none {H : Type} : Left H := { results := [], args := [] }

/-- 'zzlaws_apiserver_b1.FnForbiddenFieldKeepsFieldAndRule': WHATEVER THE INPUT: true; the input reads as it did. -/
def fnForbiddenFieldKeepsFieldAndRuleSpec : ChangeSpec := { name := "fnForbiddenFieldKeepsFieldAndRule", fn := fun _ => fun
  | [d1, d2, d3, d4] => { results := [.lit (.bool true)], args := [d1, d2, d3, d4] }
  | _ => none }
def fnForbiddenFieldKeepsFieldAndRuleRow : OpenClaim := { program := "qxb6616879a", sum := "ddde0777ce848b64b2e33bb44b76da777a0cdddd31362771a63ccde9a6870023", func := "example.com/coxswain/coxswain/zzlaws_apiserver_b1.FnForbiddenFieldKeepsFieldAndRule", spec := "fnForbiddenFieldKeepsFieldAndRule", apart := false }
def FnForbiddenFieldKeepsFieldAndRuleSaid : Prop := fnForbiddenFieldKeepsFieldAndRuleRow.holds Try.pinned (OpenSpec.ofChange fnForbiddenFieldKeepsFieldAndRuleSpec)

/-- ITS FALSE NEIGHBOUR: 'it returns false'. Refute it at one input. -/
def fnForbiddenFieldKeepsFieldAndRuleWrong : ChangeSpec := { name := "fnForbiddenFieldKeepsFieldAndRule", fn := fun _ => fun
  | [d1, d2, d3, d4] => { results := [.lit (.bool false)], args := [d1, d2, d3, d4] }
  | _ => none }
def FnForbiddenFieldKeepsFieldAndRuleWrongFalsely : Prop := fnForbiddenFieldKeepsFieldAndRuleRow.holds Try.pinned (OpenSpec.ofChange fnForbiddenFieldKeepsFieldAndRuleWrong)

/-- 'zzlaws_apiserver_b1.FnForbiddenFieldRuleJoins': WHATEVER THE INPUT: true; the input reads as it did. -/
def fnForbiddenFieldRuleJoinsSpec : ChangeSpec := { name := "fnForbiddenFieldRuleJoins", fn := fun _ => fun
  | [d1, d2, d3] => { results := [.lit (.bool true)], args := [d1, d2, d3] }
  | _ => none }
def fnForbiddenFieldRuleJoinsRow : OpenClaim := { program := "qxb6616879a", sum := "ddde0777ce848b64b2e33bb44b76da777a0cdddd31362771a63ccde9a6870023", func := "example.com/coxswain/coxswain/zzlaws_apiserver_b1.FnForbiddenFieldRuleJoins", spec := "fnForbiddenFieldRuleJoins", apart := false }
def FnForbiddenFieldRuleJoinsSaid : Prop := fnForbiddenFieldRuleJoinsRow.holds Try.pinned (OpenSpec.ofChange fnForbiddenFieldRuleJoinsSpec)

/-- ITS FALSE NEIGHBOUR: 'it returns false'. Refute it at one input. -/
def fnForbiddenFieldRuleJoinsWrong : ChangeSpec := { name := "fnForbiddenFieldRuleJoins", fn := fun _ => fun
  | [d1, d2, d3] => { results := [.lit (.bool false)], args := [d1, d2, d3] }
  | _ => none }
def FnForbiddenFieldRuleJoinsWrongFalsely : Prop := fnForbiddenFieldRuleJoinsRow.holds Try.pinned (OpenSpec.ofChange fnForbiddenFieldRuleJoinsWrong)

end Rows
end Go.Proofs.Qxb6616879a
