/-
  No cell of these rows narrows 'for every input' (looked for: loops, veiled, ifaces, maps, wideKeys, modest, calm, conditions, laid).
  DERIVED. THE GIVEN ROWS OF THIS SEAT. 3 by the template 'for every input the law returns true; each argument reads behind the call as it read before'; 0 by the template 'total and deterministic' (their statements: Qxb6618501aTotals.lean).
  GIVEN WITH THE SEED: the statements are not yours to turn. If you find one false, say at which input.
  Laid BY PROGRAM, IN A SANDBOX (cutbox-rows.mjs): the forced cells as the released guide's own fill.sh prints them over the translation 358d46f7600a6126… (all of the seat's roots in one cut). By AI agents, Wed Nov 11 2026. No macro, syntax, notation, axiom, sorry.
-/
import Derived.Test.Qxb6618501aChecked
import GoSem.Claim
import GoSem.ClaimJoined
import GoSem.ClaimMapViews
import Derived.JoinedTies
import Derived.KernelRfl
namespace Go.Proofs.Qxb6618501a
/- THE CELL 'sum', in the pinned program and in every row, IS THE sha256 OF THE DUMP (.gsa) THAT Qxb6618501aProg.lean LOADS. Nothing in Lean hashes anything: it is a label: what it is worth is what the hold of that sum in a sandbox is worth. -/
noncomputable def Try.pinned : Pinned := { name := "qxb6618501a", sum := "358d46f7600a6126b4c16609d524785afc98fb5e81c3d7b4fb041094a4cfbdbb", checked := Try.checked }
namespace Rows
def none {H : Type} : Left H := { results := [], args := [] }

/-- 'zzlaws_policy_b1.FnDenyLastWins': WHATEVER THE INPUT: true; the input reads as it did. -/
def fnDenyLastWinsSpec : ChangeSpec := { name := "fnDenyLastWins", fn := fun _ => fun
  | [d1, d2, d3, d4, d5, d6, d7, d8, d9, d10, d11, d12] => { results := [.lit (.bool true)], args := [d1, d2, d3, d4, d5, d6, d7, d8, d9, d10, d11, d12] }
  | _ => none }
def fnDenyLastWinsRow : OpenClaim := { program := "qxb6618501a", sum := "358d46f7600a6126b4c16609d524785afc98fb5e81c3d7b4fb041094a4cfbdbb", func := "example.com/bearer-certs/bearer-certs/zzlaws_policy_b1.FnDenyLastWins", spec := "fnDenyLastWins", apart := false }
def FnDenyLastWinsSaid : Prop := fnDenyLastWinsRow.holds Try.pinned (OpenSpec.ofChange fnDenyLastWinsSpec)

/-- ITS FALSE NEIGHBOUR: 'it returns false'. Refute it at one input. -/
def fnDenyLastWinsWrong : ChangeSpec := { name := "fnDenyLastWins", fn := fun _ => fun
  | [d1, d2, d3, d4, d5, d6, d7, d8, d9, d10, d11, d12] => { results := [.lit (.bool false)], args := [d1, d2, d3, d4, d5, d6, d7, d8, d9, d10, d11, d12] }
  | _ => none }
def FnDenyLastWinsWrongFalsely : Prop := fnDenyLastWinsRow.holds Try.pinned (OpenSpec.ofChange fnDenyLastWinsWrong)

/-- 'zzlaws_policy_b1.FnDenyUndo': WHATEVER THE INPUT: true; the input reads as it did. -/
def fnDenyUndoSpec : ChangeSpec := { name := "fnDenyUndo", fn := fun _ => fun
  | [d1, d2, d3, d4, d5, d6, d7, d8, d9, d10] => { results := [.lit (.bool true)], args := [d1, d2, d3, d4, d5, d6, d7, d8, d9, d10] }
  | _ => none }
def fnDenyUndoRow : OpenClaim := { program := "qxb6618501a", sum := "358d46f7600a6126b4c16609d524785afc98fb5e81c3d7b4fb041094a4cfbdbb", func := "example.com/bearer-certs/bearer-certs/zzlaws_policy_b1.FnDenyUndo", spec := "fnDenyUndo", apart := false }
def FnDenyUndoSaid : Prop := fnDenyUndoRow.holds Try.pinned (OpenSpec.ofChange fnDenyUndoSpec)

/-- ITS FALSE NEIGHBOUR: 'it returns false'. Refute it at one input. -/
def fnDenyUndoWrong : ChangeSpec := { name := "fnDenyUndo", fn := fun _ => fun
  | [d1, d2, d3, d4, d5, d6, d7, d8, d9, d10] => { results := [.lit (.bool false)], args := [d1, d2, d3, d4, d5, d6, d7, d8, d9, d10] }
  | _ => none }
def FnDenyUndoWrongFalsely : Prop := fnDenyUndoRow.holds Try.pinned (OpenSpec.ofChange fnDenyUndoWrong)

/-- 'zzlaws_policy_b1.FnClaimIsInsertAndOverride': WHATEVER THE INPUT: true; the input reads as it did. -/
def fnClaimIsInsertAndOverrideSpec : ChangeSpec := { name := "fnClaimIsInsertAndOverride", fn := fun _ => fun
  | [d1, d2, d3, d4, d5, d6, d7, d8] => { results := [.lit (.bool true)], args := [d1, d2, d3, d4, d5, d6, d7, d8] }
  | _ => none }
def fnClaimIsInsertAndOverrideRow : OpenClaim := { program := "qxb6618501a", sum := "358d46f7600a6126b4c16609d524785afc98fb5e81c3d7b4fb041094a4cfbdbb", func := "example.com/bearer-certs/bearer-certs/zzlaws_policy_b1.FnClaimIsInsertAndOverride", spec := "fnClaimIsInsertAndOverride", apart := false }
def FnClaimIsInsertAndOverrideSaid : Prop := fnClaimIsInsertAndOverrideRow.holds Try.pinned (OpenSpec.ofChange fnClaimIsInsertAndOverrideSpec)

/-- ITS FALSE NEIGHBOUR: 'it returns false'. Refute it at one input. -/
def fnClaimIsInsertAndOverrideWrong : ChangeSpec := { name := "fnClaimIsInsertAndOverride", fn := fun _ => fun
  | [d1, d2, d3, d4, d5, d6, d7, d8] => { results := [.lit (.bool false)], args := [d1, d2, d3, d4, d5, d6, d7, d8] }
  | _ => none }
def FnClaimIsInsertAndOverrideWrongFalsely : Prop := fnClaimIsInsertAndOverrideRow.holds Try.pinned (OpenSpec.ofChange fnClaimIsInsertAndOverrideWrong)

end Rows
end Go.Proofs.Qxb6618501a
