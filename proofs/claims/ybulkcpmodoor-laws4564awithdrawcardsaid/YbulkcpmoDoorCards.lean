/-
  DERIVED. GIVEN WITH THE SEED: THE CARDS: each row of YbulkcpmoDoorRows.lean that lists a variable, with what it lists TIED to the program's text (the seventh form; the later family's looks); each row that meets fmt, with fmt's text TOLD by the authors' own Lean function (tested against real Go, not proved from fmt's source: count such statements apart). THE CARD IS WHAT COUNTS. Prove the row's statement (the work); the ties are given (YbulkcpmoDoorTie.lean); close each card by the builder's one call (the guide's Derived/Test/ToyasCard.lean, 'card_holds'). Laid BY PROGRAM, IN A SANDBOX (cutbox-door.mjs). By AI agents, Wed Nov 11 2026. No macro, syntax, notation, axiom, sorry.
-/
import Derived.Test.YbulkcpmoDoorRows
import GoSem.ClaimSeven
namespace Go.Proofs.YbulkcpmoDoor
namespace Rows

/-- THE TIED CARD OF 'careful-scheduler.LawS4564AWithdraw'. -/
def lawS4564AWithdrawCard : Claim7 := { stood := { row := lawS4564AWithdrawRow, standIns := [], harness := (true, "95223a5fbb6a0579b03b81c6d3da615f57e0f9c38f9be8e26744bdd4417319d8"), looks := false }, kinds := [], alts := [], laidByText := true, laidKinds := [.data], laidTests := true, laidLooks := .later }
def LawS4564AWithdrawCardSaid : Prop := Claim7.holds Ybad.pinned (.plain (OpenSpec.ofChange lawS4564AWithdrawSpec)) lawS4564AWithdrawCard
end Rows
end Go.Proofs.YbulkcpmoDoor
