/-
  No cell of these rows narrows 'for every input' (looked for: loops, veiled, ifaces, maps, wideKeys, modest, calm, conditions, laid).
  DERIVED. THE GIVEN ROWS OF THIS SEAT. 1 by the template 'for every input the law returns true; each argument reads behind the call as it read before'; 0 by the template 'total and deterministic' (their statements: YbulkawpsTotals.lean).
  GIVEN WITH THE SEED: the statements are not yours to turn. If you find one false, say at which input.
  Laid BY PROGRAM, IN A SANDBOX (cutbox-rows.mjs): the forced cells as the released guide's own fill.sh prints them over the translation 97ad78c357dd9c86… (all of the seat's roots in one cut). By AI agents, Wed Nov 11 2026. No macro, syntax, notation, axiom, sorry.
-/
import Derived.Test.YbulkawpsChecked
import GoSem.Claim
import GoSem.ClaimJoined
import GoSem.ClaimMapViews
import Derived.JoinedTies
import Derived.KernelRfl
namespace Go.Proofs.Ybulkawps
/- THE CELL 'sum', in the pinned program and in every row, IS THE sha256 OF THE DUMP (.gsa) THAT YbulkawpsProg.lean LOADS. Nothing in Lean hashes anything: it is a label: what it is worth is what the hold of that sum in a sandbox is worth. -/
noncomputable def Yba.pinned : Pinned := { name := "ybulkawps", sum := "97ad78c357dd9c86cb42c50aa68f22e02736be10452833e5a88f9c79a0d54e14", checked := Yba.checked }
namespace Rows
def none {H : Type} : Left H := { results := [], args := [] }

/-- 'input.LawS2397BSilent': WHATEVER THE INPUT: true; the input reads as it did. -/
def lawS2397BSilentSpec : ChangeSpec := { name := "lawS2397BSilent", fn := fun _ => fun
  | [d1, d2, d3, d4, d5, d6] => { results := [.lit (.bool true)], args := [d1, d2, d3, d4, d5, d6] }
  | _ => none }
def lawS2397BSilentRow : OpenClaim := { program := "ybulkawps", sum := "97ad78c357dd9c86cb42c50aa68f22e02736be10452833e5a88f9c79a0d54e14", func := "example.com/afterrace/afterrace/input.LawS2397BSilent", spec := "lawS2397BSilent", unfollowed := true, recurses := true, apart := false }
def LawS2397BSilentSaid : Prop := lawS2397BSilentRow.holds Yba.pinned (OpenSpec.ofChange lawS2397BSilentSpec)

/-- ITS FALSE NEIGHBOUR: 'it returns false'. Refute it at one input. -/
def lawS2397BSilentWrong : ChangeSpec := { name := "lawS2397BSilent", fn := fun _ => fun
  | [d1, d2, d3, d4, d5, d6] => { results := [.lit (.bool false)], args := [d1, d2, d3, d4, d5, d6] }
  | _ => none }
def LawS2397BSilentWrongFalsely : Prop := lawS2397BSilentRow.holds Yba.pinned (OpenSpec.ofChange lawS2397BSilentWrong)

end Rows
end Go.Proofs.Ybulkawps
