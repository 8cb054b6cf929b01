import Derived.Test.YbulkawpsFmtRowKit
import Derived.Test.YbulkawpsFmtScript
import Derived.Test.YbulkawpsFmtTie
import Derived.Deep.Slices
import Derived.OpenVars
import Derived.LaidMore
import Derived.Lay
/- From the arguments and the listed variable as the rows read them to what the walks are told. -/
namespace Go.Proofs.YbulkawpsFmt
open Go.ChangeShapes Go.WideShapes Go.ChangeAt Go.RowKit Go.Kit Go.Deep
open Go.Extern.Stop Go.Stop Go.Extern
set_option maxRecDepth 100000
theorem list_of {α : Type} {P : Nat → α → Prop} (n : Nat) (h : ∀ i, i < n → ∃ d, P i d) : ∃ L : List α, L.length = n ∧ ∀ (i : Nat) (d : α), L[i]? = some d → P i d := by
  induction n with
  | zero => exact ⟨[], rfl, fun i d hd => by simp at hd⟩
  | succ n ih =>
    obtain ⟨L, hl, hL⟩ := ih (fun i hi => h i (by omega))
    obtain ⟨d, hd⟩ := h n (by omega)
    refine ⟨L ++ [d], by simp [hl], fun i e he => ?_⟩
    by_cases hi : i < n
    · rw [List.getElem?_append_left (by omega)] at he
      exact hL i e he
    · have : i = n := by
        have := (List.getElem?_eq_some_iff.1 he).1
        simp at this; omega
      subst this
      rw [List.getElem?_append_right (by omega), hl] at he
      simp at he
      subst he
      exact hd
theorem gN : Ybaf.prog.globalNamed "example.com/afterrace/afterrace/event.names" = some 0 := by kernel_rfl
theorem tN : (Ybaf.prog.globals[0]?).map (·.type) = some 72 := by kernel_rfl
section
variable {H : Type} {enc : TypeId × Value → H} {W : World} {base : Nat} {sp : Nat → Bool} {held : Bool}
theorem open_u8 {fuel : Nat} {cs : List Value} {x : DataW H × List MemPlace} (hf : DataW.trod enc Ybaf.prog W base sp held fuel 5 cs = some x) : ∃ n : Nat, cs = [.int .u8 n] ∧ n < 256 := by
  obtain ⟨n, h1, _, h2⟩ := DataW.trod_int Ybaf.underlying5 hf
  have hb := bounds_u8 h2
  obtain ⟨m, rfl⟩ := Int.eq_ofNat_of_zero_le hb.1
  exact ⟨m, h1, by omega⟩
theorem open_steps {a : Option Addr} {len cap : Nat} {d : DataW H} {p : List MemPlace} (h : DataW.Trod enc Ybaf.prog W base sp held 47 (.slice a len cap) d p) : ∃ S : List St, len = S.length ∧ S.length ≤ maxLen ∧ StepsArg W a S := by
  obtain ⟨fuel, hf⟩ := h
  rcases open_slice Ybaf.underlying47 hf with ⟨hcs, _⟩ | ⟨p', len', cap', m, n, D, Pl, hcs, _, hl, hm, hmm, _, hel⟩
  · simp [Value.cells] at hcs
    obtain ⟨rfl, rfl, rfl⟩ := hcs
    exact ⟨[], rfl, by simp [maxLen], fun i d hd => by simp at hd⟩
  · simp [Value.cells] at hcs
    obtain ⟨rfl, rfl, rfl⟩ := hcs
    have hc53 : Ybaf.prog.cellsOf 53 = 4 := by kernel_rfl
    have hc5 : Ybaf.prog.cellsOf 5 = 1 := by kernel_rfl
    have hml : len ≤ m := by rw [hmm]; split <;> omega
    have key : ∀ i, i < len → ∃ d : St, ∃ b o, some p' = some (⟨b, o, none⟩ : Addr) ∧ W.cell? ⟨b, o + i * 4, none⟩ = some (.int .u8 d.sh) ∧ W.cell? ⟨b, o + i * 4 + 1, none⟩ = some (.int .u8 d.su) ∧
        W.cell? ⟨b, o + i * 4 + 2, none⟩ = some (.int .u8 d.th) ∧ W.cell? ⟨b, o + i * 4 + 3, none⟩ = some (.int .u8 d.op) ∧ d.sh < 256 ∧ d.su < 256 ∧ d.th < 256 ∧ d.op < 256 := by
      intro i hi
      obtain ⟨cs', hcl, htr⟩ := hel i (by omega)
      rw [hc53] at hcl
      obtain ⟨_, hlen4, hcell⟩ := World.cells?_some hcl
      obtain ⟨ys, n', _, _, _, hylen, hfld⟩ := DataW.trod_struct Ybaf.underlying53 htr
      obtain ⟨e0, e1, e2, e3, rfl⟩ : ∃ e0 e1 e2 e3, cs' = [e0, e1, e2, e3] := by
        match cs', hlen4 with
        | [e0, e1, e2, e3], _ => exact ⟨e0, e1, e2, e3, rfl⟩
      obtain ⟨y0, y1, y2, y3, rfl⟩ : ∃ y0 y1 y2 y3, ys = [y0, y1, y2, y3] := by
        match ys, hylen with
        | [y0, y1, y2, y3], _ => exact ⟨y0, y1, y2, y3, rfl⟩
      have f0 : DataW.trod enc Ybaf.prog W base sp held n' 5 [e0] = some y0 := by simpa [hc5] using hfld 0
      have f1 : DataW.trod enc Ybaf.prog W base sp held n' 5 [e1] = some y1 := by simpa [hc5] using hfld 1
      have f2 : DataW.trod enc Ybaf.prog W base sp held n' 5 [e2] = some y2 := by simpa [hc5] using hfld 2
      have f3 : DataW.trod enc Ybaf.prog W base sp held n' 5 [e3] = some y3 := by simpa [hc5] using hfld 3
      obtain ⟨v0, g0, l0⟩ := open_u8 f0
      obtain ⟨v1, g1, l1⟩ := open_u8 f1
      obtain ⟨v2, g2, l2⟩ := open_u8 f2
      obtain ⟨v3, g3, l3⟩ := open_u8 f3
      simp at g0 g1 g2 g3
      subst g0 g1 g2 g3
      have c0 := hcell 0 (by omega)
      have c1 := hcell 1 (by omega)
      have c2 := hcell 2 (by omega)
      have c3 := hcell 3 (by omega)
      simp only [Addr.add_add, List.getElem?_cons_zero, List.getElem?_cons_succ] at c0 c1 c2 c3
      obtain ⟨cs0, hcl0, _⟩ := hel 0 (by omega)
      rw [hc53] at hcl0
      obtain ⟨_, hlen0, hcell0⟩ := World.cells?_some hcl0
      have hsp := World.cell?_spot ((hcell0 0 (by omega)).trans (List.getElem?_eq_getElem (by omega)))
      obtain ⟨b, o, s⟩ := p'
      have hs : s = none := by
        cases s with
        | none => rfl
        | some q => simp [Addr.add] at hsp
      subst hs
      simp only [Addr.add_lit] at c0 c1 c2 c3
      exact ⟨⟨v0, v1, v2, v3⟩, b, o, rfl, c0, c1, c2, c3, l0, l1, l2, l3⟩
    obtain ⟨L, hL, hP⟩ := list_of len key
    exact ⟨L, hL.symm, by rw [hL]; omega, fun i d hd => hP i d hd⟩
end
/-- what the condition gives the walks: the cells of event.names -/
theorem of_laid {W : World} (h : laidMetH Ybaf.prog Rows.lawS2397CScriptRow.laid W) : Names W ∧ 0 < W.heap.size := by
  rw [MakeChecks.laidMetH_plain _ _ _ (by kernel_rfl)] at h
  obtain ⟨ps, ⟨g0, t0, cs0, f0, p0, q0, hg0, ht0, hv0, hd0, _⟩, _, _⟩ := h
  obtain rfl := Option.some.inj (gN.symm.trans hg0)
  obtain rfl := Option.some.inj (tN.symm.trans ht0)
  have c9 : Ybaf.prog.cellsOf 9 = 1 := by kernel_rfl
  obtain ⟨xs, m, _, hx, hl, hxl, hel⟩ := DataW.trod_array Ybaf.underlying72 hd0
  have hcell := World.var?_cell hg0 hv0
  have key : Names W := by
    intro i s hi
    have hi11 : i < 11 := (List.getElem?_eq_some_iff.1 hi).1
    have h1 := hel i hi11
    rw [c9, Nat.mul_one] at h1
    have hxi : xs[i]? = some (xs[i]'(by omega)) := List.getElem?_eq_getElem _
    rw [hxi] at h1
    obtain ⟨s', hs1, hs2, hs3⟩ := DataW.trod_string Ybaf.underlying9 h1
    have hc : cs0[i]? = some (.string s') := by
      have : (cs0.toList.drop i).take 1 = [.string s'] := hs1
      have h2 : cs0.toList[i]? = some (.string s') := by
        have h3 : ((cs0.toList.drop i).take 1)[0]? = some (.string s') := by rw [this]; rfl
        rw [List.getElem?_take, if_pos (by decide), List.getElem?_drop, Nat.add_zero] at h3
        exact h3
      simpa using h2
    have hc' := (hcell i).trans hc
    have hd : (xs.map (·.1))[i]? = some (.lit (.string s'.data.toList)) := by
      rw [List.getElem?_map, hxi, hs2]; rfl
    have hagg : xs.map (·.1) = [.lit (.string []), .lit (.string [114]), .lit (.string [119]), .lit (.string [97, 99, 113]), .lit (.string [114, 101, 108]), .lit (.string [102, 111, 114, 107]), .lit (.string [106, 111, 105, 110]), .lit (.string [98, 101, 103, 105, 110]), .lit (.string [101, 110, 100]), .lit (.string [114, 101, 113]), .lit (.string [98, 114, 97, 110, 99, 104])] := by
      have := congrArg Prod.fst hx
      simp [Rows.laid_example_com_afterrace_afterrace_event_names] at this
      exact this.symm
    rw [hagg] at hd
    have hss : s'.data.toList = s.data.toList := by
      have : i = 0 ∨ i = 1 ∨ i = 2 ∨ i = 3 ∨ i = 4 ∨ i = 5 ∨ i = 6 ∨ i = 7 ∨ i = 8 ∨ i = 9 ∨ i = 10 := by omega
      rcases this with rfl | rfl | rfl | rfl | rfl | rfl | rfl | rfl | rfl | rfl | rfl <;> (simp at hd; simp [nmL] at hi; subst hi; rw [← hd])
    have hse : s' = s := by
      cases s'; cases s; simp at hss; rw [hss]
    rw [← hse]
    simpa using hc'
  exact ⟨key, Nat.lt_of_le_of_lt (Nat.zero_le _) (World.block_lt_of_cell? W ⟨0, 0, none⟩ (key 0 ⟨#[]⟩ rfl))⟩
end Go.Proofs.YbulkawpsFmt
