import Derived.Test.YbulkawpsFmtRowKit
import Derived.Test.YbulkawpsFmtName
import Derived.Test.YbulkawpsFmtTie
import Derived.OpenVars
import Derived.LaidMore
import Derived.Lay
/- From the listed variable as the row of C-Join reads it to what its walk is told. -/
namespace Go.Proofs.YbulkawpsFmt.lawS2397CJoin
open Go.ChangeShapes Go.WideShapes Go.ChangeAt Go.RowKit Go.Kit
open Go.Extern.Stop Go.Stop Go.Extern
set_option maxRecDepth 100000
theorem gN : Ybaf.prog.globalNamed "example.com/afterrace/afterrace/event.names" = some 0 := by kernel_rfl
theorem tN : (Ybaf.prog.globals[0]?).map (·.type) = some 72 := by kernel_rfl
/-- what the condition gives the walks: the cells of event.names -/
theorem of_laid {W : World} (h : laidMetH Ybaf.prog Rows.lawS2397CJoinRow.laid W) : Names W ∧ 0 < W.heap.size := by
  rw [MakeChecks.laidMetH_plain _ _ _ (by kernel_rfl)] at h
  obtain ⟨ps, ⟨g0, t0, cs0, f0, p0, q0, hg0, ht0, hv0, hd0, _⟩, _, _⟩ := h
  obtain rfl := Option.some.inj (gN.symm.trans hg0)
  obtain rfl := Option.some.inj (tN.symm.trans ht0)
  have c9 : Ybaf.prog.cellsOf 9 = 1 := by kernel_rfl
  obtain ⟨xs, m, _, hx, hl, hxl, hel⟩ := DataW.trod_array Ybaf.underlying72 hd0
  have hcell := World.var?_cell hg0 hv0
  have key : Names W := by
    intro i s hi
    have hi11 : i < 11 := (List.getElem?_eq_some_iff.1 hi).1
    have h1 := hel i hi11
    rw [c9, Nat.mul_one] at h1
    have hxi : xs[i]? = some (xs[i]'(by omega)) := List.getElem?_eq_getElem _
    rw [hxi] at h1
    obtain ⟨s', hs1, hs2, hs3⟩ := DataW.trod_string Ybaf.underlying9 h1
    have hc : cs0[i]? = some (.string s') := by
      have : (cs0.toList.drop i).take 1 = [.string s'] := hs1
      have h2 : cs0.toList[i]? = some (.string s') := by
        have h3 : ((cs0.toList.drop i).take 1)[0]? = some (.string s') := by rw [this]; rfl
        rw [List.getElem?_take, if_pos (by decide), List.getElem?_drop, Nat.add_zero] at h3
        exact h3
      simpa using h2
    have hc' := (hcell i).trans hc
    have hd : (xs.map (·.1))[i]? = some (.lit (.string s'.data.toList)) := by
      rw [List.getElem?_map, hxi, hs2]; rfl
    have hagg : xs.map (·.1) = [.lit (.string []), .lit (.string [114]), .lit (.string [119]), .lit (.string [97, 99, 113]), .lit (.string [114, 101, 108]), .lit (.string [102, 111, 114, 107]), .lit (.string [106, 111, 105, 110]), .lit (.string [98, 101, 103, 105, 110]), .lit (.string [101, 110, 100]), .lit (.string [114, 101, 113]), .lit (.string [98, 114, 97, 110, 99, 104])] := by
      have := congrArg Prod.fst hx
      simp [Rows.laid_example_com_afterrace_afterrace_event_names] at this
      exact this.symm
    rw [hagg] at hd
    have hss : s'.data.toList = s.data.toList := by
      have : i = 0 ∨ i = 1 ∨ i = 2 ∨ i = 3 ∨ i = 4 ∨ i = 5 ∨ i = 6 ∨ i = 7 ∨ i = 8 ∨ i = 9 ∨ i = 10 := by omega
      rcases this with rfl | rfl | rfl | rfl | rfl | rfl | rfl | rfl | rfl | rfl | rfl <;> (simp at hd; simp [nmL] at hi; subst hi; rw [← hd])
    have hse : s' = s := by
      cases s'; cases s; simp at hss; rw [hss]
    rw [← hse]
    simpa using hc'
  exact ⟨key, Nat.lt_of_le_of_lt (Nat.zero_le _) (World.block_lt_of_cell? W ⟨0, 0, none⟩ (key 0 ⟨#[]⟩ rfl))⟩
end Go.Proofs.YbulkawpsFmt.lawS2397CJoin
