import Derived.Test.YbulkawpsFmtAlone
import Derived.Deep.RegionWith
import Derived.Deep.RegionLaw
/- 'Reader.push' (func 15). -/
namespace Go.Proofs.YbulkawpsFmt
open Go.RowKit
set_option linter.unusedVariables false
set_option maxRecDepth 100000
set_option maxHeartbeats 1000000 in
theorem push_any (r base : Nat) (qv : Value) (L : List It) (it : It) (hd B : Int) (t0 t1 t2 t6 t7 t8 t9 t10 : Value) (w : World)
    (hr : Blk w r #[t0, t1, t2, qv, .int .i64 hd, .int .i64 B, t6, t7, t8, t9, t10] 40) (hq : w.ownsRow base 30 6 qv L.length (itF L)) (hn : L.length < 100000) (hb : base ≤ w.heap.size) :
    Calls Ybaf.prog 15 #[.pointer (some ⟨r, 0, none⟩), it.v] w fun e w' => ∃ g cap, e = .returned (.int .i64 (IntKind.i64.wrap (B + L.length))) ∧
      Blk w' r #[t0, t1, t2, .slice (some ⟨g, 0, none⟩) (L ++ [it]).length cap, .int .i64 hd, .int .i64 B, t6, t7, t8, t9, t10] 40 ∧ ItRow w' base g cap (L ++ [it]) ∧
      Fr (fun j => j = r ∨ qv.ownBlock = some j) w w' ∧ (qv.ownBlock = some g ∨ w.heap.size ≤ g) := by
  have HQ := hid hq
  have hq0 := row_ne hq hr (by decide)
  obtain ⟨x0, x1, x2, x3, x4, x5, x6, x7, x8, x9, x10, fx⟩ := hr.cells11
  have hrl := hr.lt
  obtain ⟨s, a1, a2, a3, a4, a5⟩ := it
  obtain ⟨qa, qc, rfl⟩ : ∃ qa qc, qv = .slice qa L.length qc := by
    rcases hq.2 with ⟨rfl, h⟩ | ⟨g, cap, cur, rfl, _⟩
    · exact ⟨none, 0, by rw [h]⟩
    · exact ⟨_, _, rfl⟩
  clear hq
  generalize hL : L.length = n at hn
  have HL := hid hL
  rw [hL] at HQ hr x3
  rw [hL] at hq0
  clear hL
  unfold It.v
  have hw1 : IntKind.i64.wrap ((n : Int) + 1 - 1) = n := by rw [IntKind.wrap_i64]; omega
  go_enter Ybaf.func15, Ybaf.ntmps15
  go_wp2_with fail
  go_region_law (first
    | (refine step_app1 rfl (.tmp 9) (.tmp 11) 25 rfl 30 _ 6 40 Ybaf.underlying25 info30 rfl (by decide) base (w.heap.size + 1) (.slice qa n qc) n (itF L) #[.string s, .int .i64 a1, .int .u32 a2, .int .u32 a3, .int .u8 a4, .int .u8 a5] rfl rfl (by exact World.ownsRow.drew ((HQ.out.alloc _).alloc _)) (by exact Blk.drew (Blk.new' (by simp))) rfl (by simp [Value.oneCell']) (by omega) (by decide) (by simp; omega) ?_
       intro g cap w3 own3 fr3 at3 lt3
       have hN3 : Blk w3 r #[t0, t1, t2, .slice qa n qc, .int .i64 hd, .int .i64 B, t6, t7, t8, t9, t10] 40 := Blk.fr (Blk.drew ((hr.alloc _).alloc _)) fr3 hq0
       have HR3 : Hid (w3.ownsRow base 30 6 (.slice (some ⟨g, 0, none⟩) (n + 1) cap) (n + 1) (itF L ++ [.string s, .int .i64 a1, .int .u32 a2, .int .u32 a3, .int .u8 a4, .int .u8 a5])) := own3
       have gr : g ≠ r := fun h => row_ne own3 hN3 (by decide) (by simp [Value.ownBlock, h])
       have FR3 : Hid (Fr (fun j => j = r ∨ (Value.slice qa n qc).ownBlock = some j) w w3) := Fr.trans (Fr.drew (((Fr.refl _ w).alloc _).alloc _)) fr3 (fun j _ h => Or.inr h)
       have HG3 : Hid ((Value.slice qa n qc).ownBlock = some g ∨ w.heap.size ≤ g) := by
         rcases at3 with h | h
         · exact Or.inl h
         · right; rw [h]; simp; omega
       clear own3 fr3 at3 x0 x1 x2 x3 x4 x5 x6 x7 x8 x9 x10 fx
       obtain ⟨x0, x1, x2, x3, x4, x5, x6, x7, x8, x9, x10, fx⟩ := hN3.cells11
       have hlt3 := hN3.lt))
  all_goals go_wp2
  all_goals go_quiet (fail)
  all_goals go_wp2
  all_goals go_ret
  all_goals have e1 : (L ++ [({ text := s, line := a1, at_ := a2, en := a3, op := a4, st := a5 } : It)]).length = n + 1 := by simp [HL.out]
  all_goals refine ⟨g, cap, by simp; exact (Go.IntWalk.i64_left _).symm, ?_, ?_, Fr.drewN (Fr.setCell FR3.out (p := ⟨r, 3, none⟩) (fun _ => Or.inl rfl) _) _, HG3.out⟩
  all_goals first
    | (rw [e1]; exact (hN3.set 3 _).drewN _)
    | (unfold ItRow
       rw [e1, itF_app]
       exact row_fr (row_set_other HR3.out (a := ⟨r, 3, none⟩) (by simp [Value.ownBlock, gr]) _) ((Fr.refl (fun _ => False) _).drewN _) (fun _ _ h => h))
end Go.Proofs.YbulkawpsFmt
