import Derived.Test.YbulkawpeLawKit
import Derived.Deep.Slices
import Derived.ShutString
/- From the arguments as the row reads them to what the walk is told. -/
namespace Go.Proofs.Ybulkawpe
open Go.ChangeShapes Go.WideShapes Go.ChangeAt Go.RowKit Go.Deep
set_option maxRecDepth 100000
theorem list_of {α : Type} {P : Nat → α → Prop} (n : Nat) (h : ∀ i, i < n → ∃ d, P i d) : ∃ L : List α, L.length = n ∧ ∀ (i : Nat) (d : α), L[i]? = some d → P i d := by
  induction n with
  | zero => exact ⟨[], rfl, fun i d hd => by simp at hd⟩
  | succ n ih =>
    obtain ⟨L, hl, hL⟩ := ih (fun i hi => h i (by omega))
    obtain ⟨d, hd⟩ := h n (by omega)
    refine ⟨L ++ [d], by simp [hl], fun i e he => ?_⟩
    by_cases hi : i < n
    · rw [List.getElem?_append_left (by omega)] at he
      exact hL i e he
    · have : i = n := by
        have := (List.getElem?_eq_some_iff.1 he).1
        simp at this; omega
      subst this
      rw [List.getElem?_append_right (by omega), hl] at he
      simp at he
      subst he
      exact hd
section
variable {H : Type} {enc : TypeId × Value → H} {W : World} {base : Nat} {sp : Nat → Bool} {held : Bool}
theorem open_i64s {fuel : Nat} {cs : List Value} {x : DataW H × List MemPlace} (hf : DataW.trod enc Yba.prog W base sp held fuel 23 cs = some x) : ∃ a cap, ∃ xs : List Int, cs = [.slice a xs.length cap] ∧ ArgInts W (.slice a xs.length cap) xs := by
  rcases open_ints Yba.underlying23 Yba.underlying2 (by kernel_rfl) hf with ⟨hcs, _⟩ | ⟨p, len, cap, zs, hcs, _, hl, hm, hz, _, hcell, hwz⟩
  · exact ⟨none, 0, [], hcs, none, 0, rfl, by simp [maxLen], by simp, by simp⟩
  · have hge : len ≤ zs.length := by split at hz <;> omega
    have hlen : (zs.take len).length = len := by simp; omega
    refine ⟨some p, cap, zs.take len, by rw [hlen]; exact hcs, some p, cap, rfl, by simp; omega, fun x hx => bounds_i64 (hwz x (List.mem_of_mem_take hx)), fun i x hi => ?_⟩
    have hil : i < len := by
      have := (List.getElem?_eq_some_iff.1 hi).1
      omega
    rw [List.getElem?_take, if_pos hil] at hi
    have hc := hcell i (by omega)
    have hsp := World.cell?_spot (hcell 0 (by omega))
    obtain ⟨b, o, s⟩ := p
    have hs : s = none := by
      cases s with
      | none => rfl
      | some q => simp [Addr.add] at hsp
    subst hs
    refine ⟨b, o, rfl, ?_⟩
    rw [add_plain] at hc
    rw [hc]
    simp [List.getD, hi]
theorem open_int1 {fuel : Nat} {cs : List Value} {x : DataW H × List MemPlace} (hf : DataW.trod enc Yba.prog W base sp held fuel 2 cs = some x) : ∃ n : Int, cs = [.int .i64 n] ∧ I64 n := by
  obtain ⟨n, h1, _, h2⟩ := DataW.trod_int Yba.underlying2 hf
  exact ⟨n, h1, bounds_i64 h2⟩
theorem open_eps {a : Option Addr} {len cap : Nat} {d : DataW H} {p : List MemPlace} (h : DataW.Trod enc Yba.prog W base sp held 22 (.slice a len cap) d p) : ∃ eps : List EpD, len = eps.length ∧ eps.length ≤ maxLen ∧ EpsArg W a eps := by
  obtain ⟨fuel, hf⟩ := h
  rcases open_slice Yba.underlying22 hf with ⟨hcs, _⟩ | ⟨p', len', cap', m, n, D, Pl, hcs, _, hl, hm, hmm, _, hel⟩
  · simp [Value.cells] at hcs
    obtain ⟨rfl, rfl, rfl⟩ := hcs
    exact ⟨[], rfl, by simp [maxLen], fun i d hd => by simp at hd⟩
  · simp [Value.cells] at hcs
    obtain ⟨rfl, rfl, rfl⟩ := hcs
    have hc25 : Yba.prog.cellsOf 25 = 4 := by kernel_rfl
    have hc2 : Yba.prog.cellsOf 2 = 1 := by kernel_rfl
    have hc23 : Yba.prog.cellsOf 23 = 1 := by kernel_rfl
    have hml : len ≤ m := by rw [hmm]; split <;> omega
    have key : ∀ i, i < len → ∃ d : EpD, ∃ b o ra rc pa pc, some p' = some (⟨b, o, none⟩ : Addr) ∧ W.cell? ⟨b, o + i * 4, none⟩ = some (.int .i64 d.keep) ∧ W.cell? ⟨b, o + i * 4 + 1, none⟩ = some (.int .i64 d.greet) ∧
        W.cell? ⟨b, o + i * 4 + 2, none⟩ = some (.slice ra d.reps.length rc) ∧ W.cell? ⟨b, o + i * 4 + 3, none⟩ = some (.slice pa d.peers.length pc) ∧ ArgInts W (.slice ra d.reps.length rc) d.reps ∧ ArgInts W (.slice pa d.peers.length pc) d.peers ∧ I64 d.keep ∧ I64 d.greet := by
      intro i hi
      obtain ⟨cs', hcl, htr⟩ := hel i (by omega)
      rw [hc25] at hcl
      obtain ⟨_, hlen4, hcell⟩ := World.cells?_some hcl
      obtain ⟨ys, n', _, _, _, hylen, hfld⟩ := DataW.trod_struct Yba.underlying25 htr
      obtain ⟨e0, e1, e2, e3, rfl⟩ : ∃ e0 e1 e2 e3, cs' = [e0, e1, e2, e3] := by
        match cs', hlen4 with
        | [e0, e1, e2, e3], _ => exact ⟨e0, e1, e2, e3, rfl⟩
      obtain ⟨y0, y1, y2, y3, rfl⟩ : ∃ y0 y1 y2 y3, ys = [y0, y1, y2, y3] := by
        match ys, hylen with
        | [y0, y1, y2, y3], _ => exact ⟨y0, y1, y2, y3, rfl⟩
      have f0 : DataW.trod enc Yba.prog W base sp held n' 2 [e0] = some y0 := by simpa [hc2] using hfld 0
      have f1 : DataW.trod enc Yba.prog W base sp held n' 2 [e1] = some y1 := by simpa [hc2] using hfld 1
      have f2 : DataW.trod enc Yba.prog W base sp held n' 23 [e2] = some y2 := by simpa [hc23] using hfld 2
      have f3 : DataW.trod enc Yba.prog W base sp held n' 23 [e3] = some y3 := by simpa [hc23] using hfld 3
      obtain ⟨kp, hk, ik⟩ := open_int1 f0
      obtain ⟨gt, hg, ig⟩ := open_int1 f1
      obtain ⟨ra, rc, rs, hr, ir⟩ := open_i64s f2
      obtain ⟨pa, pc, ps, hpp, ip⟩ := open_i64s f3
      simp at hk hg hr hpp
      subst hk hg hr hpp
      have c0 := hcell 0 (by omega)
      have c1 := hcell 1 (by omega)
      have c2 := hcell 2 (by omega)
      have c3 := hcell 3 (by omega)
      simp only [Addr.add_add, List.getElem?_cons_zero, List.getElem?_cons_succ] at c0 c1 c2 c3
      obtain ⟨cs0, hcl0, _⟩ := hel 0 (by omega)
      rw [hc25] at hcl0
      obtain ⟨_, hlen0, hcell0⟩ := World.cells?_some hcl0
      have hsp := World.cell?_spot ((hcell0 0 (by omega)).trans (List.getElem?_eq_getElem (by omega)))
      obtain ⟨b, o, s⟩ := p'
      have hs : s = none := by
        cases s with
        | none => rfl
        | some q => simp [Addr.add] at hsp
      subst hs
      rw [add_plain] at c0 c1 c2 c3
      exact ⟨⟨kp, gt, rs, ps⟩, b, o, ra, rc, pa, pc, rfl, c0, c1, c2, c3, ir, ip, ik, ig⟩
    obtain ⟨L, hL, hP⟩ := list_of len key
    exact ⟨L, hL.symm, by rw [hL]; omega, fun i d hd => hP i d hd⟩
end
end Go.Proofs.Ybulkawpe
