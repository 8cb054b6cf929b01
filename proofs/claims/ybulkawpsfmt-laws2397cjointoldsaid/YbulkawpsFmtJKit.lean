import Derived.Test.YbulkawpsFmtJplace0p
import Derived.Test.YbulkawpsFmtJplace0q
import Derived.Test.YbulkawpsFmtJplace0r
import Derived.Test.YbulkawpsFmtJplace5r
import Derived.Test.YbulkawpsFmtJplace5s
import Derived.Test.YbulkawpsFmtJplace5d
import Derived.Test.YbulkawpsFmtSteps
import Derived.Deep.RegionHeld3
/- Small laws for the law C-Join. -/
namespace Go.Proofs.YbulkawpsFmt
open Go.RowKit
open Go.Extern.Stop Go.Stop Go.Extern
set_option linter.unusedVariables false
set_option maxRecDepth 100000
theorem th_ne {a b : Nat} {x y : ByteArray} (h : thS[a]? = some x) (h' : thS[b]? = some y) (hne : a ≠ b) : x.data.toList ≠ y.data.toList := by
  rcases th_cases h with ⟨rfl, rfl⟩ | ⟨rfl, rfl⟩ | ⟨rfl, rfl⟩ <;> rcases th_cases h' with ⟨rfl, rfl⟩ | ⟨rfl, rfl⟩ | ⟨rfl, rfl⟩ <;> first | exact absurd rfl hne | decide
theorem th_ne2 {a b : Nat} {x y : ByteArray} (h : thS[a]? = some x) (h' : thS[b]? = some y) (hne : a ≠ b) : (x.toList == y.toList) = false := by
  rcases th_cases h with ⟨rfl, rfl⟩ | ⟨rfl, rfl⟩ | ⟨rfl, rfl⟩ <;> rcases th_cases h' with ⟨rfl, rfl⟩ | ⟨rfl, rfl⟩ | ⟨rfl, rfl⟩ <;> first | exact absurd rfl hne | kernel_rfl
/-- a row of items as 'buildSlice' makes it -/
theorem row_of_new (w : World) (L : List It) (c : Array Value) (hc : c.toList = itF L) (hl : L.length < 1000) : (w.alloc (.cells c 30)).ownsRow w.heap.size 30 6 (.slice (some ⟨w.heap.size, 0, none⟩) L.length L.length) L.length (itF L) := by
  have hs : c.size = L.length * 6 := by rw [← Array.length_toList, hc, itF_len]
  refine ⟨itF_len L, Or.inr ⟨w.heap.size, L.length, c, rfl, Nat.le_refl _, Blk.new w c 30, Nat.le_refl _, by unfold maxLen; omega, hs, ?_⟩⟩
  rw [hc, ← itF_len L, List.take_length]
end Go.Proofs.YbulkawpsFmt
