/-
  NARROWER THAN 'FOR EVERY INPUT', by the rows' own cells (each row's printed sentence says how): LawS2397CScript: laid · LawS2397CJoin: laid.
  DERIVED. THE GIVEN ROWS OF THIS SEAT. 4 by the template 'for every input the law returns true; each argument reads behind the call as it read before'; 0 by the template 'total and deterministic' (their statements: YbulkawpsFmtTotals.lean).
  GIVEN WITH THE SEED: the statements are not yours to turn. If you find one false, say at which input.
  Laid BY PROGRAM, IN A SANDBOX (cutbox-rows.mjs): the forced cells as the released guide's own fill.sh prints them over the translation 287345eb56a5c860… (all of the seat's roots in one cut). By AI agents, Wed Nov 11 2026. No macro, syntax, notation, axiom, sorry.
-/
import Derived.Test.YbulkawpsFmtChecked
import GoSem.Claim
import GoSem.ClaimJoined
import GoSem.ClaimMapViews
import Derived.JoinedTies
import Derived.KernelRfl
namespace Go.Proofs.YbulkawpsFmt
/- THE CELL 'sum', in the pinned program and in every row, IS THE sha256 OF THE DUMP (.gsa) THAT YbulkawpsFmtProg.lean LOADS. Nothing in Lean hashes anything: it is a label: what it is worth is what the hold of that sum in a sandbox is worth. -/
noncomputable def Ybaf.pinned : Pinned := { name := "ybulkawpsfmt", sum := "287345eb56a5c86083284084893ce5a444ad942cbe11343b41cae455430fc3c2", checked := Ybaf.checked }
namespace Rows
def none {H : Type} : Left H := { results := [], args := [] }

/- WHAT THE LISTED PACKAGE-LEVEL VARIABLES READ AS WHEN THE CALL BEGINS. Each datum BY PROGRAM (the guide's laid-datum.mjs) off the statement by which the dump's own 'gosem.cut.vars' lays the variable. In a bare row this is a premise. The card (YbulkawpsFmtCards.lean) ties it to the program's text. -/
def laid_example_com_afterrace_afterrace_event_names {H : Type} : DataW H := .agg [.lit (.string []), .lit (.string [114]), .lit (.string [119]), .lit (.string [97, 99, 113]), .lit (.string [114, 101, 108]), .lit (.string [102, 111, 114, 107]), .lit (.string [106, 111, 105, 110]), .lit (.string [98, 101, 103, 105, 110]), .lit (.string [101, 110, 100]), .lit (.string [114, 101, 113]), .lit (.string [98, 114, 97, 110, 99, 104])]

/-- 'roadrunnerform.LawS2397AHeld': WHATEVER THE INPUT: true; the input reads as it did. -/
def lawS2397AHeldSpec : ChangeSpec := { name := "lawS2397AHeld", fn := fun _ => fun
  | [d1, d2, d3, d4, d5, d6, d7] => { results := [.lit (.bool true)], args := [d1, d2, d3, d4, d5, d6, d7] }
  | _ => none }
def lawS2397AHeldRow : OpenClaim := { program := "ybulkawpsfmt", sum := "287345eb56a5c86083284084893ce5a444ad942cbe11343b41cae455430fc3c2", func := "example.com/afterrace/afterrace/roadrunnerform.LawS2397AHeld", spec := "lawS2397AHeld", stops := ["fmt.Sprintf"], inPlace := ["fmt.Sprintf"], apart := false }
/-- NO THEOREM (fmt's text is open here; it may be false): for the released tool's asking of the row's closed facts alone. THE STATEMENT IS 'LawS2397AHeldToldSaid' (YbulkawpsFmtCards.lean). -/
def LawS2397AHeldFormAsk : Prop := lawS2397AHeldRow.holds Ybaf.pinned (OpenSpec.ofChange lawS2397AHeldSpec)

/-- ITS FALSE NEIGHBOUR: 'it returns false'. Refute it at one input. -/
def lawS2397AHeldWrong : ChangeSpec := { name := "lawS2397AHeld", fn := fun _ => fun
  | [d1, d2, d3, d4, d5, d6, d7] => { results := [.lit (.bool false)], args := [d1, d2, d3, d4, d5, d6, d7] }
  | _ => none }
def LawS2397AHeldWrongFormAsk : Prop := lawS2397AHeldRow.holds Ybaf.pinned (OpenSpec.ofChange lawS2397AHeldWrong)

/-- 'roadrunnerform.LawS2397ARan': WHATEVER THE INPUT: true; the input reads as it did. -/
def lawS2397ARanSpec : ChangeSpec := { name := "lawS2397ARan", fn := fun _ => fun
  | [d1, d2, d3, d4, d5, d6, d7] => { results := [.lit (.bool true)], args := [d1, d2, d3, d4, d5, d6, d7] }
  | _ => none }
def lawS2397ARanRow : OpenClaim := { program := "ybulkawpsfmt", sum := "287345eb56a5c86083284084893ce5a444ad942cbe11343b41cae455430fc3c2", func := "example.com/afterrace/afterrace/roadrunnerform.LawS2397ARan", spec := "lawS2397ARan", stops := ["fmt.Sprintf"], inPlace := ["fmt.Sprintf"], apart := false }
/-- NO THEOREM (fmt's text is open here; it may be false): for the released tool's asking of the row's closed facts alone. THE STATEMENT IS 'LawS2397ARanToldSaid' (YbulkawpsFmtCards.lean). -/
def LawS2397ARanFormAsk : Prop := lawS2397ARanRow.holds Ybaf.pinned (OpenSpec.ofChange lawS2397ARanSpec)

/-- ITS FALSE NEIGHBOUR: 'it returns false'. Refute it at one input. -/
def lawS2397ARanWrong : ChangeSpec := { name := "lawS2397ARan", fn := fun _ => fun
  | [d1, d2, d3, d4, d5, d6, d7] => { results := [.lit (.bool false)], args := [d1, d2, d3, d4, d5, d6, d7] }
  | _ => none }
def LawS2397ARanWrongFormAsk : Prop := lawS2397ARanRow.holds Ybaf.pinned (OpenSpec.ofChange lawS2397ARanWrong)

/-- 'roadrunnerform.LawS2397CScript': WHATEVER THE INPUT: true; the input reads as it did. -/
def lawS2397CScriptSpec : ChangeSpec := { name := "lawS2397CScript", vars := ["example.com/afterrace/afterrace/event.names"], fn := fun _ => fun
  | [d, g1] => { results := [.lit (.bool true)], args := [d], vars := [g1] }
  | _ => none }
def lawS2397CScriptRow : OpenClaim := { program := "ybulkawpsfmt", sum := "287345eb56a5c86083284084893ce5a444ad942cbe11343b41cae455430fc3c2", func := "example.com/afterrace/afterrace/roadrunnerform.LawS2397CScript", spec := "lawS2397CScript", stops := ["fmt.Sprintf"], inPlace := ["fmt.Sprintf"], named := ["example.com/afterrace/afterrace/event.names"], apart := false, laid := [("example.com/afterrace/afterrace/event.names", laid_example_com_afterrace_afterrace_event_names)] }
/-- NO THEOREM (fmt's text is open here; it may be false): for the released tool's asking of the row's closed facts alone. THE STATEMENT IS 'LawS2397CScriptToldSaid' (YbulkawpsFmtCards.lean). -/
def LawS2397CScriptFormAsk : Prop := lawS2397CScriptRow.holds Ybaf.pinned (OpenSpec.ofChange lawS2397CScriptSpec)

/-- ITS FALSE NEIGHBOUR: 'it returns false'. Refute it at one input. -/
def lawS2397CScriptWrong : ChangeSpec := { name := "lawS2397CScript", vars := ["example.com/afterrace/afterrace/event.names"], fn := fun _ => fun
  | [d, g1] => { results := [.lit (.bool false)], args := [d], vars := [g1] }
  | _ => none }
def LawS2397CScriptWrongFormAsk : Prop := lawS2397CScriptRow.holds Ybaf.pinned (OpenSpec.ofChange lawS2397CScriptWrong)

/-- 'roadrunnerform.LawS2397CJoin': WHATEVER THE INPUT: true; the input reads as it did. -/
def lawS2397CJoinSpec : ChangeSpec := { name := "lawS2397CJoin", vars := ["example.com/afterrace/afterrace/event.names"], fn := fun _ => fun
  | [d1, d2, d3, g1] => { results := [.lit (.bool true)], args := [d1, d2, d3], vars := [g1] }
  | _ => none }
def lawS2397CJoinRow : OpenClaim := { program := "ybulkawpsfmt", sum := "287345eb56a5c86083284084893ce5a444ad942cbe11343b41cae455430fc3c2", func := "example.com/afterrace/afterrace/roadrunnerform.LawS2397CJoin", spec := "lawS2397CJoin", stops := ["fmt.Sprintf"], inPlace := ["fmt.Sprintf"], named := ["example.com/afterrace/afterrace/event.names"], apart := false, laid := [("example.com/afterrace/afterrace/event.names", laid_example_com_afterrace_afterrace_event_names)] }
/-- NO THEOREM (fmt's text is open here; it may be false): for the released tool's asking of the row's closed facts alone. THE STATEMENT IS 'LawS2397CJoinToldSaid' (YbulkawpsFmtCards.lean). -/
def LawS2397CJoinFormAsk : Prop := lawS2397CJoinRow.holds Ybaf.pinned (OpenSpec.ofChange lawS2397CJoinSpec)

/-- ITS FALSE NEIGHBOUR: 'it returns false'. Refute it at one input. -/
def lawS2397CJoinWrong : ChangeSpec := { name := "lawS2397CJoin", vars := ["example.com/afterrace/afterrace/event.names"], fn := fun _ => fun
  | [d1, d2, d3, g1] => { results := [.lit (.bool false)], args := [d1, d2, d3], vars := [g1] }
  | _ => none }
def LawS2397CJoinWrongFormAsk : Prop := lawS2397CJoinRow.holds Ybaf.pinned (OpenSpec.ofChange lawS2397CJoinWrong)

end Rows
end Go.Proofs.YbulkawpsFmt
