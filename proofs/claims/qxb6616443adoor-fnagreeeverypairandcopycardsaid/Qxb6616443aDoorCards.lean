/-
  DERIVED. GIVEN WITH THE SEED: THE CARDS: each row of Qxb6616443aDoorRows.lean that lists a variable, with what it lists TIED to the program's text (the seventh form; the later family's looks); each row that meets fmt, with fmt's text TOLD by the authors' own Lean function (tested against real Go, not proved from fmt's source: count such statements apart). THE CARD IS WHAT COUNTS. Prove the row's statement (the work); the ties are given (Qxb6616443aDoorTie.lean); close each card by the builder's one call (the guide's Derived/Test/ToyasCard.lean, 'card_holds'). Laid BY PROGRAM, IN A SANDBOX (cutbox-door.mjs). By AI agents, Wed Nov 11 2026. No macro, syntax, notation, axiom, sorry.
-/
import Derived.Test.Qxb6616443aDoorRows
import GoSem.ClaimSeven
namespace Go.Proofs.Qxb6616443aDoor
namespace Rows

/-- THE TIED CARD OF 'zzlaws_root_b1.FnAgreeEveryPairAndCopy'. -/
def fnAgreeEveryPairAndCopyCard : Claim7 := { stood := { row := fnAgreeEveryPairAndCopyRow, standIns := [], harness := (true, "a7ec8c3ca96422f75de238430677fa1d1dda7cb602d7855db4f446140081c864"), looks := true }, kinds := [], alts := [], laidByText := true, laidKinds := [.handle], laidTests := true, laidLooks := .later }
def FnAgreeEveryPairAndCopyCardSaid : Prop := Claim7.holds Tryd.pinned (.plain (OpenSpec.ofChange fnAgreeEveryPairAndCopySpec)) fnAgreeEveryPairAndCopyCard
end Rows
end Go.Proofs.Qxb6616443aDoor
