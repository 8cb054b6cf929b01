/-
  NARROWER THAN 'FOR EVERY INPUT', by the rows' own cells (each row's printed sentence says how): LawS2396BJoin: laid.
  DERIVED. THE GIVEN ROWS OF THIS SEAT. 1 by the template 'for every input the law returns true; each argument reads behind the call as it read before'; 0 by the template 'total and deterministic' (their statements: YbulkawpeDoorTotals.lean).
  GIVEN WITH THE SEED: the statements are not yours to turn. If you find one false, say at which input.
  Laid BY PROGRAM, IN A SANDBOX (cutbox-rows.mjs): the forced cells as the released guide's own fill.sh prints them over the translation af1b61230b71e3ff… (all of the seat's roots in one cut). By AI agents, Wed Nov 11 2026. No macro, syntax, notation, axiom, sorry.
-/
import Derived.Test.YbulkawpeDoorChecked
import GoSem.Claim
import GoSem.ClaimJoined
import GoSem.ClaimMapViews
import Derived.JoinedTies
import Derived.KernelRfl
namespace Go.Proofs.YbulkawpeDoor
/- THE CELL 'sum', in the pinned program and in every row, IS THE sha256 OF THE DUMP (.gsa) THAT YbulkawpeDoorProg.lean LOADS. Nothing in Lean hashes anything: it is a label: what it is worth is what the hold of that sum in a sandbox is worth. -/
noncomputable def Ybad.pinned : Pinned := { name := "ybulkawpedoor", sum := "af1b61230b71e3ff3aadd13a5e6af8ba475c59baf5291bfdfd529142c23b052a", checked := Ybad.checked }
namespace Rows
def none {H : Type} : Left H := { results := [], args := [] }

/- WHAT THE LISTED PACKAGE-LEVEL VARIABLES READ AS WHEN THE CALL BEGINS. Each datum BY PROGRAM (the guide's laid-datum.mjs) off the statement by which the dump's own 'gosem.cut.vars' lays the variable. In a bare row this is a premise. The card (YbulkawpeDoorCards.lean) ties it to the program's text. -/
def laid_net_netip_z6noz {H : Type} : DataW H := .agg [.ptr (.agg [.lit (.bool true), .lit (.string [])])]

/-- 'sim.LawS2396BJoin': WHATEVER THE INPUT: true; the input reads as it did. -/
def lawS2396BJoinSpec : ChangeSpec := { name := "lawS2396BJoin", fn := fun _ => fun
  | [d1, d2, d3] => { results := [.lit (.bool true)], args := [d1, d2, d3] }
  | _ => none }
def lawS2396BJoinRow : OpenClaim := { program := "ybulkawpedoor", sum := "af1b61230b71e3ff3aadd13a5e6af8ba475c59baf5291bfdfd529142c23b052a", func := "example.com/hearthwire/hearthwire/sim.LawS2396BJoin", spec := "lawS2396BJoin", unfollowed := true, recurses := true, named := ["encoding/binary.BigEndian", "net/netip.z6noz"], apart := false, laid := [("net/netip.z6noz", laid_net_netip_z6noz)] }
def LawS2396BJoinSaid : Prop := lawS2396BJoinRow.holds Ybad.pinned (OpenSpec.ofChange lawS2396BJoinSpec)

/-- ITS FALSE NEIGHBOUR: 'it returns false'. Refute it at one input. -/
def lawS2396BJoinWrong : ChangeSpec := { name := "lawS2396BJoin", fn := fun _ => fun
  | [d1, d2, d3] => { results := [.lit (.bool false)], args := [d1, d2, d3] }
  | _ => none }
def LawS2396BJoinWrongFalsely : Prop := lawS2396BJoinRow.holds Ybad.pinned (OpenSpec.ofChange lawS2396BJoinWrong)

end Rows
end Go.Proofs.YbulkawpeDoor
