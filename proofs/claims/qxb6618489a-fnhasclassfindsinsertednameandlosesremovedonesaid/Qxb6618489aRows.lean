/-
  No cell of these rows narrows 'for every input' (looked for: loops, veiled, ifaces, maps, wideKeys, modest, calm, conditions, laid).
  DERIVED. THE GIVEN ROWS OF THIS SEAT. 2 by the template 'for every input the law returns true; each argument reads behind the call as it read before'; 0 by the template 'total and deterministic' (their statements: Qxb6618489aTotals.lean).
  GIVEN WITH THE SEED: the statements are not yours to turn. If you find one false, say at which input.
  Laid BY PROGRAM, IN A SANDBOX (cutbox-rows.mjs): the forced cells as the released guide's own fill.sh prints them over the translation 77d3053a03590b19… (all of the seat's roots in one cut). By AI agents, Wed Nov 11 2026. No macro, syntax, notation, axiom, sorry.
-/
import Derived.Test.Qxb6618489aChecked
import GoSem.Claim
import GoSem.ClaimJoined
import GoSem.ClaimMapViews
import Derived.JoinedTies
import Derived.KernelRfl
namespace Go.Proofs.Qxb6618489a
/- THE CELL 'sum', in the pinned program and in every row, IS THE sha256 OF THE DUMP (.gsa) THAT Qxb6618489aProg.lean LOADS. Nothing in Lean hashes anything: it is a label: what it is worth is what the hold of that sum in a sandbox is worth. -/
noncomputable def Try.pinned : Pinned := { name := "qxb6618489a", sum := "77d3053a03590b192aab182bf32dcf806b0013a1e2c4184a94934c19f7a404cf", checked := Try.checked }
namespace Rows
def none {H : Type} : Left H := { results := [], args := [] }

/-- 'zzlaws_internal_funds_b1.FnHasClassIsMembershipAtAnyCutAndOrder': WHATEVER THE INPUT: true; the input reads as it did. -/
def fnHasClassIsMembershipAtAnyCutAndOrderSpec : ChangeSpec := { name := "fnHasClassIsMembershipAtAnyCutAndOrder", fn := fun _ => fun
  | [d1, d2, d3] => { results := [.lit (.bool true)], args := [d1, d2, d3] }
  | _ => none }
def fnHasClassIsMembershipAtAnyCutAndOrderRow : OpenClaim := { program := "qxb6618489a", sum := "77d3053a03590b192aab182bf32dcf806b0013a1e2c4184a94934c19f7a404cf", func := "example.com/tuoguan/tuoguan/zzlaws_internal_funds_b1.FnHasClassIsMembershipAtAnyCutAndOrder", spec := "fnHasClassIsMembershipAtAnyCutAndOrder", unfollowed := true, recurses := true, apart := false }
def FnHasClassIsMembershipAtAnyCutAndOrderSaid : Prop := fnHasClassIsMembershipAtAnyCutAndOrderRow.holds Try.pinned (OpenSpec.ofChange fnHasClassIsMembershipAtAnyCutAndOrderSpec)

/-- ITS FALSE NEIGHBOUR: 'it returns false'. Refute it at one input. -/
def fnHasClassIsMembershipAtAnyCutAndOrderWrong : ChangeSpec := { name := "fnHasClassIsMembershipAtAnyCutAndOrder", fn := fun _ => fun
  | [d1, d2, d3] => { results := [.lit (.bool false)], args := [d1, d2, d3] }
  | _ => none }
def FnHasClassIsMembershipAtAnyCutAndOrderWrongFalsely : Prop := fnHasClassIsMembershipAtAnyCutAndOrderRow.holds Try.pinned (OpenSpec.ofChange fnHasClassIsMembershipAtAnyCutAndOrderWrong)

/-- 'zzlaws_internal_funds_b1.FnHasClassFindsInsertedNameAndLosesRemovedOne': WHATEVER THE INPUT: true; the input reads as it did. -/
def fnHasClassFindsInsertedNameAndLosesRemovedOneSpec : ChangeSpec := { name := "fnHasClassFindsInsertedNameAndLosesRemovedOne", fn := fun _ => fun
  | [d1, d2, d3] => { results := [.lit (.bool true)], args := [d1, d2, d3] }
  | _ => none }
def fnHasClassFindsInsertedNameAndLosesRemovedOneRow : OpenClaim := { program := "qxb6618489a", sum := "77d3053a03590b192aab182bf32dcf806b0013a1e2c4184a94934c19f7a404cf", func := "example.com/tuoguan/tuoguan/zzlaws_internal_funds_b1.FnHasClassFindsInsertedNameAndLosesRemovedOne", spec := "fnHasClassFindsInsertedNameAndLosesRemovedOne", unfollowed := true, recurses := true, apart := false }
def FnHasClassFindsInsertedNameAndLosesRemovedOneSaid : Prop := fnHasClassFindsInsertedNameAndLosesRemovedOneRow.holds Try.pinned (OpenSpec.ofChange fnHasClassFindsInsertedNameAndLosesRemovedOneSpec)

/-- ITS FALSE NEIGHBOUR: 'it returns false'. Refute it at one input. -/
def fnHasClassFindsInsertedNameAndLosesRemovedOneWrong : ChangeSpec := { name := "fnHasClassFindsInsertedNameAndLosesRemovedOne", fn := fun _ => fun
  | [d1, d2, d3] => { results := [.lit (.bool false)], args := [d1, d2, d3] }
  | _ => none }
def FnHasClassFindsInsertedNameAndLosesRemovedOneWrongFalsely : Prop := fnHasClassFindsInsertedNameAndLosesRemovedOneRow.holds Try.pinned (OpenSpec.ofChange fnHasClassFindsInsertedNameAndLosesRemovedOneWrong)

end Rows
end Go.Proofs.Qxb6618489a
