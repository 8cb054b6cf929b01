import Derived.Test.YbulkawpeDoorBase
import Derived.Test.YbulkawpeDoorRows
import Derived.Handy
import Derived.Laws.Cover3
/- Contract: slices.Clone at []sim.Link. -/
namespace Go.Proofs.YbulkawpeDoor
open Go.RowKit
set_option linter.unusedVariables false
theorem run_eql_slice_nil' {P : Program} (w : World) (t e : TypeId) (a : Option Addr) (l c : Nat) (h : P.underlying t = some (.slice e)) : (binOp .eql t (.slice a l c) (.slice none 0 0)).run P w = .ok (.bool a.isNone) w := by
  simp only [binOp]
  simp [run_equal_slice_nil w t e a l c h]
theorem info41 : (Ybad.prog.info? 41).map (fun i => (i.zero, i.size, i.bytes)) = some (some (.int .i64 0), 1, 8) := by kernel_rfl
theorem clone_nil (w : World) : Calls Ybad.prog 12 #[.slice none 0 0] w fun e w' => e = .returned (.slice none 0 0) ∧ w' = w := by
  have hq := fun w a l c => run_eql_slice_nil' (P := Ybad.prog) w 40 41 a l c Ybad.underlying40
  go_enter Ybad.func12, Ybad.ntmps12
  go_wp2
  go_ret
  exact ⟨rfl, rfl⟩
set_option maxHeartbeats 1000000 in
theorem clone_any (g m c base : Nat) (xs : List Value) (w : World) (ho : w.ownsRow base 41 1 (.slice (some ⟨g, 0, none⟩) m c) m xs) (h1 : ∀ u ∈ xs, u.oneCell' = true) (hm : m ≤ 1024) :
    Calls Ybad.prog 12 #[.slice (some ⟨g, 0, none⟩) m c] w fun e w' => ∃ v', e = .returned v' ∧ w'.ownsRow w.heap.size 41 1 v' m xs ∧ Fr (fun _ => False) w w' := by
  have hq := fun w a l c => run_eql_slice_nil' (P := Ybad.prog) w 40 41 a l c Ybad.underlying40
  obtain ⟨i, hi, hz, hsi, hbi⟩ := info_parts info41
  have HO := (show Hid _ from ho)
  have H1 := (show Hid _ from h1)
  clear ho h1
  go_enter Ybad.func12, Ybad.ntmps12
  go_wp2_with (at_builtin; refine wpList_append_own _ rfl (.tmp 5) (.tmp 6) 40 rfl w.heap.size 41 i _ 1 8 Ybad.underlying40 hi hz hsi hbi rfl (by decide) (.slice (some ⟨w.heap.size, 0, none⟩) 0 0) 0 [] rfl ?hown ⟨g, 0, none⟩ m c xs rfl ?hl ?hnews H1.out ?h63 ?hbytes ?hbase ?_)
  case hown => exact World.ownsRow_made w _ 0 (Nat.le_refl _) (by unfold maxLen; omega) rfl
  case hl => exact HO.out.1
  case hnews =>
    intro j u hu
    rw [Addr.add_lit, Nat.zero_add]
    exact row_cell (World.ownsRow.alloc HO.out _) hu
  case h63 => unfold maxLen; omega
  case hbytes => omega
  case hbase => simp
  intro v' w1 own1 gr1 _
  have OW1 : Hid _ := own1
  have FR1 : Hid (Fr (fun _ => False) w w1) := ((Fr.refl _ w).alloc _).grown gr1 (fun k hk hlt => by simp [Value.ownBlock] at hk; omega)
  clear own1 gr1
  go_wp2
  go_ret
  exact ⟨_, rfl, OW1.out, FR1.out⟩
theorem row_form {w : World} {base : Nat} {e : TypeId} {size : Nat} {v : Value} {n : Nat} {xs : List Value} (h : w.ownsRow base e size v n xs) : ∃ a c, v = .slice a n c ∧ (a = none → n = 0 ∧ c = 0) ∧ ∀ ad, a = some ad → ∃ g, ad = ⟨g, 0, none⟩ := by
  rcases h.2 with ⟨rfl, rfl⟩ | ⟨g, cap, cur, rfl, _⟩
  · exact ⟨_, _, rfl, fun _ => ⟨rfl, rfl⟩, fun ad h => by cases h⟩
  · exact ⟨_, _, rfl, fun h => (by cases h), fun ad h => ⟨g, by cases h; rfl⟩⟩
/-- slices.Clone of an owned row, nil or not -/
theorem clone_row (m base : Nat) (v : Value) (xs : List Value) (w : World) (ho : w.ownsRow base 41 1 v m xs) (h1 : ∀ u ∈ xs, u.oneCell' = true) (hm : m ≤ 1024) :
    Calls Ybad.prog 12 #[v] w fun e w' => ∃ a c, e = .returned (.slice a m c) ∧ w'.ownsRow w.heap.size 41 1 (.slice a m c) m xs ∧ Fr (fun _ => False) w w' := by
  rcases ho.2 with ⟨rfl, rfl⟩ | ⟨g, cap, cur, rfl, _⟩
  · refine (clone_nil w).mono ?_
    rintro e w' ⟨rfl, rfl⟩
    have hx : xs = [] := List.eq_nil_of_length_eq_zero (by simpa using ho.1)
    subst hx
    exact ⟨none, 0, rfl, World.ownsRow_nil _ _ _ _, Fr.refl _ _⟩
  · refine (clone_any g m cap base xs w ho h1 hm).mono ?_
    rintro e w' ⟨v', rfl, o', fr⟩
    obtain ⟨a, c, rfl, _⟩ := row_form o'
    exact ⟨a, c, rfl, o', fr⟩
end Go.Proofs.YbulkawpeDoor
