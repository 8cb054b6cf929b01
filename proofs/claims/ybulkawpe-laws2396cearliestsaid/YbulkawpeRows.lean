/-
  No cell of these rows narrows 'for every input' (looked for: loops, veiled, ifaces, maps, wideKeys, modest, calm, conditions, laid).
  DERIVED. THE GIVEN ROWS OF THIS SEAT. 1 by the template 'for every input the law returns true; each argument reads behind the call as it read before'; 0 by the template 'total and deterministic' (their statements: YbulkawpeTotals.lean).
  GIVEN WITH THE SEED: the statements are not yours to turn. If you find one false, say at which input.
  Laid BY PROGRAM, IN A SANDBOX (cutbox-rows.mjs): the forced cells as the released guide's own fill.sh prints them over the translation 105fdad6efe29e70… (all of the seat's roots in one cut). By AI agents, Wed Nov 11 2026. No macro, syntax, notation, axiom, sorry.
-/
import Derived.Test.YbulkawpeChecked
import GoSem.Claim
import GoSem.ClaimJoined
import GoSem.ClaimMapViews
import Derived.JoinedTies
import Derived.KernelRfl
namespace Go.Proofs.Ybulkawpe
/- THE CELL 'sum', in the pinned program and in every row, IS THE sha256 OF THE DUMP (.gsa) THAT YbulkawpeProg.lean LOADS. Nothing in Lean hashes anything: it is a label: what it is worth is what the hold of that sum in a sandbox is worth. -/
noncomputable def Yba.pinned : Pinned := { name := "ybulkawpe", sum := "105fdad6efe29e704c51e72b1713bfb88a9b19cc8ff3a3935dbbb8c143113520", checked := Yba.checked }
namespace Rows
def none {H : Type} : Left H := { results := [], args := [] }

/-- 'dncp.LawS2396CEarliest': WHATEVER THE INPUT: true; the input reads as it did. -/
def lawS2396CEarliestSpec : ChangeSpec := { name := "lawS2396CEarliest", fn := fun _ => fun
  | [d1, d2, d3, d4, d5] => { results := [.lit (.bool true)], args := [d1, d2, d3, d4, d5] }
  | _ => none }
def lawS2396CEarliestRow : OpenClaim := { program := "ybulkawpe", sum := "105fdad6efe29e704c51e72b1713bfb88a9b19cc8ff3a3935dbbb8c143113520", func := "example.com/hearthwire/hearthwire/dncp.LawS2396CEarliest", spec := "lawS2396CEarliest", unfollowed := true, recurses := true, apart := false }
def LawS2396CEarliestSaid : Prop := lawS2396CEarliestRow.holds Yba.pinned (OpenSpec.ofChange lawS2396CEarliestSpec)

/-- ITS FALSE NEIGHBOUR: 'it returns false'. Refute it at one input. -/
def lawS2396CEarliestWrong : ChangeSpec := { name := "lawS2396CEarliest", fn := fun _ => fun
  | [d1, d2, d3, d4, d5] => { results := [.lit (.bool false)], args := [d1, d2, d3, d4, d5] }
  | _ => none }
def LawS2396CEarliestWrongFalsely : Prop := lawS2396CEarliestRow.holds Yba.pinned (OpenSpec.ofChange lawS2396CEarliestWrong)

end Rows
end Go.Proofs.Ybulkawpe
