import Derived.Test.YbulkawpeLawKit
/- Two regions of the law C-Earliest that draw their order, each walked by itself (the frame written out in letters). -/
namespace Go.Proofs.Ybulkawpe
open Go.RowKit
set_option linter.unusedVariables false
set_option maxRecDepth 100000
def regionIn (n : Nat) : Code → Option Code
  | .region i ops b => if i = n then some (.region i ops b) else none
  | .seq a b => match regionIn n a with
    | some c => some c
    | none => regionIn n b
  | .cond _ a b => match regionIn n a with
    | some c => some c
    | none => regionIn n b
  | .block _ c => regionIn n c
  | .loop c => regionIn n c
  | .scope c => regionIn n c
  | _ => none
theorem then_mono {K : Act → World → Prop} {Q : Exit → Act → World → Prop} : ∀ (e : Exit) (a : Act) (w : World), Exit.then K (fun _ _ _ => False) e a w → Exit.then K Q e a w := fun e a w h => by
  cases e <;> first | exact h | exact (h : False).elim
end Go.Proofs.Ybulkawpe
