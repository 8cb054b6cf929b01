/-
  DERIVED. GIVEN WITH THE SEED: THE CARDS: each row of YbulkawpeDoorRows.lean that lists a variable, with what it lists TIED to the program's text (the seventh form; the later family's looks); each row that meets fmt, with fmt's text TOLD by the authors' own Lean function (tested against real Go, not proved from fmt's source: count such statements apart). THE CARD IS WHAT COUNTS. Prove the row's statement (the work); the ties are given (YbulkawpeDoorTie.lean); close each card by the builder's one call (the guide's Derived/Test/ToyasCard.lean, 'card_holds'). Laid BY PROGRAM, IN A SANDBOX (cutbox-door.mjs). By AI agents, Wed Nov 11 2026. No macro, syntax, notation, axiom, sorry.
-/
import Derived.Test.YbulkawpeDoorRows
import GoSem.ClaimSeven
namespace Go.Proofs.YbulkawpeDoor
namespace Rows

/-- THE TIED CARD OF 'sim.LawS2396BJoin'. -/
def lawS2396BJoinCard : Claim7 := { stood := { row := lawS2396BJoinRow, standIns := [], harness := (true, "43c1088b4e1ac583072e6a98986a7f971dfa03a1d3b827059e74bf8046dc8238"), looks := false }, kinds := [], alts := [], laidByText := true, laidKinds := [.called], laidTests := true, laidLooks := .later }
def LawS2396BJoinCardSaid : Prop := Claim7.holds Ybad.pinned (.plain (OpenSpec.ofChange lawS2396BJoinSpec)) lawS2396BJoinCard
end Rows
end Go.Proofs.YbulkawpeDoor
