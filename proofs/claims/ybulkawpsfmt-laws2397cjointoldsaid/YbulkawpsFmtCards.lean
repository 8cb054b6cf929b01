/-
  DERIVED. GIVEN WITH THE SEED: THE CARDS: each row of YbulkawpsFmtRows.lean that lists a variable, with what it lists TIED to the program's text (the seventh form; the later family's looks); each row that meets fmt, with fmt's text TOLD by the authors' own Lean function (tested against real Go, not proved from fmt's source: count such statements apart). THE CARD IS WHAT COUNTS. Prove the row's statement (the work); the ties are given (YbulkawpsFmtTie.lean); close each card by the builder's one call (the guide's Derived/Test/ToyasCard.lean, 'card_holds'). Laid BY PROGRAM, IN A SANDBOX (cutbox-door.mjs). By AI agents, Wed Nov 11 2026. No macro, syntax, notation, axiom, sorry.
-/
import Derived.Test.YbulkawpsFmtRows
import GoSem.ClaimSeven
namespace Go.Proofs.YbulkawpsFmt
namespace Rows

/-- THE TOLD CARD OF 'roadrunnerform.LawS2397AHeld'. -/
def lawS2397AHeldCard : Claim7 := { stood := { row := lawS2397AHeldRow, standIns := [], harness := (true, "2d9a2900261214a67f4fc28715a8a36c3ae20efc883f635a47c7f289f6219176"), looks := false }, told := true, goes := false }
def LawS2397AHeldToldSaid : Prop := Claim7.holds Ybaf.pinned (.plain (OpenSpec.ofChange lawS2397AHeldSpec)) lawS2397AHeldCard
/-- ITS FALSE NEIGHBOUR. Refute it at one input. -/
def LawS2397AHeldToldWrongFalsely : Prop := Claim7.holds Ybaf.pinned (.plain (OpenSpec.ofChange lawS2397AHeldWrong)) lawS2397AHeldCard

/-- THE TOLD CARD OF 'roadrunnerform.LawS2397ARan'. -/
def lawS2397ARanCard : Claim7 := { stood := { row := lawS2397ARanRow, standIns := [], harness := (true, "2d9a2900261214a67f4fc28715a8a36c3ae20efc883f635a47c7f289f6219176"), looks := false }, told := true, goes := false }
def LawS2397ARanToldSaid : Prop := Claim7.holds Ybaf.pinned (.plain (OpenSpec.ofChange lawS2397ARanSpec)) lawS2397ARanCard
/-- ITS FALSE NEIGHBOUR. Refute it at one input. -/
def LawS2397ARanToldWrongFalsely : Prop := Claim7.holds Ybaf.pinned (.plain (OpenSpec.ofChange lawS2397ARanWrong)) lawS2397ARanCard

/-- THE TOLD AND TIED CARD OF 'roadrunnerform.LawS2397CScript'. -/
def lawS2397CScriptCard : Claim7 := { stood := { row := lawS2397CScriptRow, standIns := [], harness := (true, "2d9a2900261214a67f4fc28715a8a36c3ae20efc883f635a47c7f289f6219176"), looks := false }, told := true, laidByText := true, laidKinds := [.data], laidTests := true, laidLooks := .later, goes := false }
def LawS2397CScriptToldSaid : Prop := Claim7.holds Ybaf.pinned (.plain (OpenSpec.ofChange lawS2397CScriptSpec)) lawS2397CScriptCard
/-- ITS FALSE NEIGHBOUR. Refute it at one input. -/
def LawS2397CScriptToldWrongFalsely : Prop := Claim7.holds Ybaf.pinned (.plain (OpenSpec.ofChange lawS2397CScriptWrong)) lawS2397CScriptCard

/-- THE TOLD AND TIED CARD OF 'roadrunnerform.LawS2397CJoin'. -/
def lawS2397CJoinCard : Claim7 := { stood := { row := lawS2397CJoinRow, standIns := [], harness := (true, "2d9a2900261214a67f4fc28715a8a36c3ae20efc883f635a47c7f289f6219176"), looks := false }, told := true, laidByText := true, laidKinds := [.data], laidTests := true, laidLooks := .later, goes := false }
def LawS2397CJoinToldSaid : Prop := Claim7.holds Ybaf.pinned (.plain (OpenSpec.ofChange lawS2397CJoinSpec)) lawS2397CJoinCard
/-- ITS FALSE NEIGHBOUR. Refute it at one input. -/
def LawS2397CJoinToldWrongFalsely : Prop := Claim7.holds Ybaf.pinned (.plain (OpenSpec.ofChange lawS2397CJoinWrong)) lawS2397CJoinCard
end Rows
end Go.Proofs.YbulkawpsFmt
