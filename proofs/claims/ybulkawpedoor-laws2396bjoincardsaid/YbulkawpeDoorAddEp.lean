import Derived.Test.YbulkawpeDoorTime
import Derived.Deep.RegionLaw
import Derived.Handy
/- Contract: (*zzs2396bnode).AddEndpoint. -/
namespace Go.Proofs.YbulkawpeDoor
open Go.RowKit
set_option linter.unusedVariables false
theorem info3 : (Ybad.prog.info? 3).map (fun i => (i.zero, i.size, i.bytes)) = some (some (.int .i64 0), 1, 8) := by kernel_rfl
theorem info50 : (Ybad.prog.info? 50).map (fun i => (i.zero, i.size, i.bytes)) = some (some (.int .u32 0), 1, 4) := by kernel_rfl
theorem info26 : (Ybad.prog.info? 26).map (fun i => (i.zero, i.size, i.bytes)) = some (some (.agg #[.int .u64 0, .int .i64 0, .pointer none]), 3, 24) := by kernel_rfl
set_option maxHeartbeats 1000000 in
theorem addEndpoint_any (N base : Nat) (k a i t : Value) (n1 n2 n3 : Nat) (xk xi xt : List Value) (id A B : Int) (L : Option Addr) (w : World)
    (hN : Blk w N #[k, a, i, t] 38) (ok : w.ownsRow base 3 1 k n1 xk) (oi : w.ownsRow base 50 1 i n2 xi) (ot : w.ownsRow base 26 3 t n3 xt) (hb : base ≤ w.heap.size)
    (b1 : n1 ≤ 2000) (b2 : n2 ≤ 2000) (b3 : n3 ≤ 2000) :
    Calls Ybad.prog 42 #[.pointer (some ⟨N, 0, none⟩), .int .u32 id, .agg #[.int .u64 A, .int .i64 B, .pointer L]] w fun e w' =>
      e = .returned (.tuple #[]) ∧ ∃ k' i' t', Blk w' N #[k', a, i', t'] 38 ∧ w'.ownsRow base 3 1 k' (n1 + 1) (xk ++ [.int .i64 2]) ∧ w'.ownsRow base 50 1 i' (n2 + 1) (xi ++ [.int .u32 id]) ∧
        w'.ownsRow base 26 3 t' (n3 + 1) (xt ++ [.int .u64 A, .int .i64 B, .pointer L]) ∧
        Fr (fun j => j = N ∨ k.ownBlock = some j ∨ i.ownBlock = some j ∨ t.ownBlock = some j) w w' := by
  obtain ⟨c0, c1, c2, c3, cf⟩ := hN.cells4
  have hlt := hN.lt
  have OK : Hid (w.ownsRow base 3 1 k n1 xk) := ok
  have OI : Hid (w.ownsRow base 50 1 i n2 xi) := oi
  have OT : Hid (w.ownsRow base 26 3 t n3 xt) := ot
  have kN := row_ne ok hN (by decide)
  have iN := row_ne oi hN (by decide)
  have tN := row_ne ot hN (by decide)
  clear ok oi ot
  go_enter Ybad.func42, Ybad.ntmps42
  go_wp2_with (at_builtin; refine wpList_app1 rfl (.tmp 10) (.tmp 11) 33 rfl 3 _ 1 8 Ybad.underlying33 info3 rfl (by decide) base (w.heap.size + 1) k n1 xk #[.int .i64 2] rfl rfl ?hown ?hR rfl ?h1 ?hn (by decide) ?hbase ?_)
  case hown => exact (OK.out.alloc _).alloc _
  case hR => exact Blk.new' (by simp)
  case h1 => simp [Value.oneCell']
  case hn => omega
  case hbase => simp; omega
  intro g1 cap1 w1 own1 fr1 at1 lt1
  have hN1 : Blk w1 N #[k, a, i, t] 38 := ((hN.alloc _).alloc _).fr fr1 kN
  have OI1 : Hid (w1.ownsRow base 50 1 i n2 xi) := row_fr ((OI.out.alloc _).alloc _) fr1 (fun g hg => row_ne_row OI.out OK.out (by decide) hg)
  have OT1 : Hid (w1.ownsRow base 26 3 t n3 xt) := row_fr ((OT.out.alloc _).alloc _) fr1 (fun g hg => row_ne_row OT.out OK.out (by decide) hg)
  have FR1 : Hid (Fr (fun j => j = N ∨ k.ownBlock = some j ∨ i.ownBlock = some j ∨ t.ownBlock = some j) w w1) := ((((Fr.refl _ w).alloc _).alloc _).trans fr1 (fun j _ h => Or.inr (Or.inl h)))
  have OK1 : Hid (w1.ownsRow base 3 1 (.slice (some ⟨g1, 0, none⟩) (n1 + 1) cap1) (n1 + 1) (xk ++ [.int .i64 2])) := own1
  have gN1 : g1 ≠ N := fun h => row_ne own1 hN1 (by decide) (by simp [Value.ownBlock, h])
  have hX1 : Blk w1 w.heap.size #[.int .u64 A, .int .i64 B, .pointer L] 26 := ((Blk.new w _ _).alloc _).fr fr1 (fun h => by have := row_lt OK.out h; omega)
  clear fr1 own1 at1 c0 c1 c2 c3 cf
  obtain ⟨c0, c1, c2, c3, cf⟩ := hN1.cells4
  have hlt1 := hN1.lt
  go_wp2_with (at_builtin; refine wpList_app1 rfl (.tmp 19) (.tmp 21) 35 rfl 50 _ 1 4 Ybad.underlying35 info50 rfl (by decide) base w1.heap.size i n2 xi #[.int .u32 id] rfl rfl ?hown ?hR rfl ?h1 ?hn (by decide) ?hbase ?_)
  case hown => exact (row_set_other OI1.out iN _).alloc _
  case hR => exact Blk.new' (by simp)
  case h1 => simp [Value.oneCell']
  case hn => omega
  case hbase => simp; have := FR1.out.size; omega
  intro g2 cap2 w2 own2 fr2 at2 lt2
  have hN2 : Blk w2 N #[.slice (some ⟨g1, 0, none⟩) (n1 + 1) cap1, a, i, t] 38 := ((hN1.set 0 _).alloc _).fr fr2 iN
  have OT2 : Hid (w2.ownsRow base 26 3 t n3 xt) := row_fr ((row_set_other OT1.out tN _).alloc _) fr2 (fun g hg => row_ne_row OT.out OI.out (by decide) hg)
  have OK2 : Hid (w2.ownsRow base 3 1 (.slice (some ⟨g1, 0, none⟩) (n1 + 1) cap1) (n1 + 1) (xk ++ [.int .i64 2])) := row_fr ((row_set_other OK1.out (by simp [Value.ownBlock, gN1]) _).alloc _) fr2 (fun g hg => row_ne_row OK1.out OI1.out (by decide) hg)
  have OI2 : Hid (w2.ownsRow base 50 1 (.slice (some ⟨g2, 0, none⟩) (n2 + 1) cap2) (n2 + 1) (xi ++ [.int .u32 id])) := own2
  have FR2 : Hid (Fr (fun j => j = N ∨ k.ownBlock = some j ∨ i.ownBlock = some j ∨ t.ownBlock = some j) w w2) := ((FR1.out.setCell (fun _ => Or.inl rfl) _).alloc _).trans fr2 (fun j _ h => Or.inr (Or.inr (Or.inl h)))
  have gN2 : g2 ≠ N := fun h => row_ne own2 hN2 (by decide) (by simp [Value.ownBlock, h])
  have hX2 : Blk w2 w.heap.size #[.int .u64 A, .int .i64 B, .pointer L] 26 := ((hX1.set_other (by simp; omega) _).alloc _).fr fr2 (fun h => by have := row_lt OI.out h; omega)
  clear fr2 own2 at2 c0 c1 c2 c3 cf
  obtain ⟨c0, c1, c2, c3, cf⟩ := hN2.cells4
  obtain ⟨x0, x1, x2, xf⟩ := hX2.cells3
  have hlt2 := hN2.lt
  have hltx := hX2.lt
  go_wp2_with fail
  go_region_law (first
    | (refine step_app1 rfl (.tmp 29) (.tmp 31) 36 rfl 26 _ 3 24 Ybad.underlying36 info26 rfl (by decide) base w2.heap.size t n3 xt #[.int .u64 A, .int .i64 B, .pointer L] rfl rfl (by exact World.ownsRow.drew ((row_set_other OT2.out tN _).alloc _)) (by exact Blk.drew (Blk.new' (by simp))) rfl (by simp [Value.oneCell']) (by omega) (by decide) (by simp; have := FR2.out.size; omega) ?_
       intro g3 cap3 w3 own3 fr3 at3 lt3
       have hN3 : Blk w3 N #[.slice (some ⟨g1, 0, none⟩) (n1 + 1) cap1, a, .slice (some ⟨g2, 0, none⟩) (n2 + 1) cap2, t] 38 := Blk.fr (Blk.drew ((hN2.set 2 _).alloc _)) fr3 tN
       have OK3 : Hid (w3.ownsRow base 3 1 (.slice (some ⟨g1, 0, none⟩) (n1 + 1) cap1) (n1 + 1) (xk ++ [.int .i64 2])) := row_fr (World.ownsRow.drew ((row_set_other OK2.out (by simp [Value.ownBlock, gN1]) _).alloc _)) fr3 (fun g hg => row_ne_row OK2.out OT2.out (by decide) hg)
       have OI3 : Hid (w3.ownsRow base 50 1 (.slice (some ⟨g2, 0, none⟩) (n2 + 1) cap2) (n2 + 1) (xi ++ [.int .u32 id])) := row_fr (World.ownsRow.drew ((row_set_other OI2.out (by simp [Value.ownBlock, gN2]) _).alloc _)) fr3 (fun g hg => row_ne_row OI2.out OT2.out (by decide) hg)
       have OT3 : Hid (w3.ownsRow base 26 3 (.slice (some ⟨g3, 0, none⟩) (n3 + 1) cap3) (n3 + 1) (xt ++ [.int .u64 A, .int .i64 B, .pointer L])) := own3
       have gN3 : g3 ≠ N := fun h => row_ne own3 hN3 (by decide) (by simp [Value.ownBlock, h])
       have FR3 : Hid (Fr (fun j => j = N ∨ k.ownBlock = some j ∨ i.ownBlock = some j ∨ t.ownBlock = some j) w w3) := Fr.trans (Fr.drew ((FR2.out.setCell (fun _ => Or.inl rfl) _).alloc _)) fr3 (fun j _ h => Or.inr (Or.inr (Or.inr h)))
       clear own3 fr3 at3
       obtain ⟨d0, d1, d2, d3, df⟩ := hN3.cells4
       have hlt3 := hN3.lt))
  all_goals go_wp2
  all_goals go_end0
  all_goals exact ⟨rfl, _, _, _, hN3.set 3 _, row_set_other OK3.out (by simp [Value.ownBlock, gN1]) _, row_set_other OI3.out (by simp [Value.ownBlock, gN2]) _, row_set_other OT3.out (by simp [Value.ownBlock, gN3]) _, FR3.out.setCell (fun _ => Or.inl rfl) _⟩
end Go.Proofs.YbulkawpeDoor
