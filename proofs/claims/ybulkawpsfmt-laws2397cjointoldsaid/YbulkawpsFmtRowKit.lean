import Derived.Test.YbulkawpsFmtCards
import Derived.Test.YbulkawpsFmtItem
import Derived.Stop.JoinedAt
import Derived.Stop.Texts
import Derived.Stop.JoinedTold
import Derived.SevenToldRow
import Derived.ShutString
/- What the told cards of this seat share. -/
namespace Go.Proofs.YbulkawpsFmt
open Go.ChangeShapes Go.WideShapes Go.ChangeAt Go.RowKit Go.Kit
open Go.Extern.Stop Go.Stop Go.Extern
theorem own : ownKnob Ybaf.prog.godebug = none := by kernel_rfl
theorem laidOut : laidOutB Ybaf.pinned.checked.prog = true := by kernel_rfl
theorem stops : Ybaf.pinned.checked.prog.stops = ["fmt.Sprintf"] := by kernel_rfl
theorem stopKnobs : Ybaf.pinned.checked.prog.stopKnobs = [] := by kernel_rfl
theorem quiet (os : Os) : Stop.quiet Ybaf.pinned.checked.prog os := by
  intro k hk
  rw [stopKnobs] at hk
  cases hk
/-- an argument's slice of int32, opened -/
theorem open_i32s {H : Type} {enc : TypeId × Value → H} {W : World} {base : Nat} {sp : Nat → Bool} {b : Bool} {a : Option Addr} {len cap : Nat} {d : DataW H} {p : List MemPlace}
    (h2 : DataW.Trod enc Ybaf.prog W base sp b 22 (.slice a len cap) d p) : ∃ xs : List Int, len = xs.length ∧ ArgI32 W a xs := by
  obtain ⟨fuel, hf⟩ := h2
  rcases open_ints Ybaf.underlying22 Ybaf.underlying21 (by kernel_rfl) hf with ⟨hcs, _⟩ | ⟨x, l, c, zs, hcs, _, hl, hm, hz, _, hcell, hwz⟩
  · simp [Value.cells] at hcs
    obtain ⟨rfl, rfl, rfl⟩ := hcs
    exact ⟨[], rfl, by simp [ArgI32, maxLen]⟩
  · simp [Value.cells] at hcs
    obtain ⟨rfl, rfl, rfl⟩ := hcs
    have hge : len ≤ zs.length := by split at hz <;> omega
    refine ⟨zs.take len, by simp; omega, by simp; omega, fun x hx => ?_, fun i x hi => ⟨_, rfl, ?_⟩⟩
    · exact bounds_i32 (hwz x (List.mem_of_mem_take hx))
    · have hil : i < len := by
        have := (List.getElem?_eq_some_iff.1 hi).1
        simp at this; omega
      rw [List.getElem?_take, if_pos hil] at hi
      rw [hcell i (by omega)]
      simp [List.getD, hi]
end Go.Proofs.YbulkawpsFmt
