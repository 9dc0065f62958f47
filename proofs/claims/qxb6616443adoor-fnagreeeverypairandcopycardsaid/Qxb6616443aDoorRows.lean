/-
  NARROWER THAN 'FOR EVERY INPUT', by the rows' own cells (each row's printed sentence says how): FnAgreeEveryPairAndCopy: laid.
  DERIVED. THE GIVEN ROWS OF THIS SEAT. 1 by the template 'for every input the law returns true; each argument reads behind the call as it read before'; 0 by the template 'total and deterministic' (their statements: Qxb6616443aDoorTotals.lean).
  GIVEN WITH THE SEED: the statements are not yours to turn. If you find one false, say at which input.
  Laid BY PROGRAM, IN A SANDBOX (cutbox-rows.mjs): the forced cells as the released guide's own fill.sh prints them over the translation 1e3770d49fa0a9db… (all of the seat's roots in one cut). By AI agents, Wed Nov 11 2026. No macro, syntax, notation, axiom, sorry.
-/
import Derived.Test.Qxb6616443aDoorChecked
import GoSem.Claim
import GoSem.ClaimJoined
import GoSem.ClaimMapViews
import Derived.JoinedTies
import Derived.KernelRfl
namespace Go.Proofs.Qxb6616443aDoor
/- THE CELL 'sum', in the pinned program and in every row, IS THE sha256 OF THE DUMP (.gsa) THAT Qxb6616443aDoorProg.lean LOADS. Nothing in Lean hashes anything: it is a label: what it is worth is what the hold of that sum in a sandbox is worth. -/
noncomputable def Tryd.pinned : Pinned := { name := "qxb6616443adoor", sum := "1e3770d49fa0a9dbae0d044c97a6b620bcc35d32f37c481a054e6a726943156f", checked := Tryd.checked }
namespace Rows
def none {H : Type} : Left H := { results := [], args := [] }

/- WHAT THE LISTED PACKAGE-LEVEL VARIABLES READ AS WHEN THE CALL BEGINS. Each datum BY PROGRAM (the guide's laid-datum.mjs) off the statement by which the dump's own 'gosem.cut.vars' lays the variable. In a bare row this is a premise. The card (Qxb6616443aDoorCards.lean) ties it to the program's text. -/
def laid_errors_errorType {H : Type} : DataW H := .iface "internal/reflectlite.rtype" (.agg [.ptr (.lit (.string [101, 114, 114, 111, 114]))])

/-- 'zzlaws_root_b1.FnAgreeEveryPairAndCopy': WHATEVER THE INPUT: true; the input reads as it did. -/
def fnAgreeEveryPairAndCopySpec : ChangeSpec := { name := "fnAgreeEveryPairAndCopy", fn := fun _ => fun
  | [d1, d2, d3] => { results := [.lit (.bool true)], args := [d1, d2, d3] }
  | _ => none }
def fnAgreeEveryPairAndCopyRow : OpenClaim := { program := "qxb6616443adoor", sum := "1e3770d49fa0a9dbae0d044c97a6b620bcc35d32f37c481a054e6a726943156f", func := "example.com/numerand/numerand/zzlaws_root_b1.FnAgreeEveryPairAndCopy", spec := "fnAgreeEveryPairAndCopy", inPlace := ["internal/reflectlite.ValueOf", "(internal/reflectlite.Value).Type", "(internal/reflectlite.Value).IsNil", "internal/reflectlite.TypeOf", "(internal/reflectlite.Value).Elem", "(internal/reflectlite.Value).Set"], unfollowed := true, recurses := true, named := ["errors.errorType"], apart := false, laid := [("errors.errorType", laid_errors_errorType)] }
def FnAgreeEveryPairAndCopySaid : Prop := fnAgreeEveryPairAndCopyRow.holds Tryd.pinned (OpenSpec.ofChange fnAgreeEveryPairAndCopySpec)

/-- ITS FALSE NEIGHBOUR: 'it returns false'. Refute it at one input. -/
def fnAgreeEveryPairAndCopyWrong : ChangeSpec := { name := "fnAgreeEveryPairAndCopy", fn := fun _ => fun
  | [d1, d2, d3] => { results := [.lit (.bool false)], args := [d1, d2, d3] }
  | _ => none }
def FnAgreeEveryPairAndCopyWrongFalsely : Prop := fnAgreeEveryPairAndCopyRow.holds Tryd.pinned (OpenSpec.ofChange fnAgreeEveryPairAndCopyWrong)

end Rows
end Go.Proofs.Qxb6616443aDoor
