import Derived.Test.YbulkawpeDoorTime
import Derived.Lib.EndianBits
import Derived.Deep.QuietTactic
import Derived.BigQuiet
import Derived.Deep.RegionWith
/- Contracts: byteorder.BEUint64, netip.AddrFrom16, binary.BigEndian.PutUint16. -/
namespace Go.Proofs.YbulkawpeDoor
open Go.RowKit
set_option linter.unusedVariables false
set_option maxHeartbeats 4000000 in
set_option maxRecDepth 100000 in
theorem beu64_any (g o n c : Nat) (b0 b1 b2 b3 b4 b5 b6 b7 : Int) (w : World) (hn : 8 ≤ n)
    (c0 : w.cell? ⟨g, o, none⟩ = some (.int .u8 b0)) (c1 : w.cell? ⟨g, o + 1, none⟩ = some (.int .u8 b1)) (c2 : w.cell? ⟨g, o + 2, none⟩ = some (.int .u8 b2)) (c3 : w.cell? ⟨g, o + 3, none⟩ = some (.int .u8 b3)) (c4 : w.cell? ⟨g, o + 4, none⟩ = some (.int .u8 b4)) (c5 : w.cell? ⟨g, o + 5, none⟩ = some (.int .u8 b5)) (c6 : w.cell? ⟨g, o + 6, none⟩ = some (.int .u8 b6)) (c7 : w.cell? ⟨g, o + 7, none⟩ = some (.int .u8 b7))
    (l0 : 0 ≤ b0) (u0 : b0 < 256) (l1 : 0 ≤ b1) (u1 : b1 < 256) (l2 : 0 ≤ b2) (u2 : b2 < 256) (l3 : 0 ≤ b3) (u3 : b3 < 256) (l4 : 0 ≤ b4) (u4 : b4 < 256) (l5 : 0 ≤ b5) (u5 : b5 < 256) (l6 : 0 ≤ b6) (u6 : b6 < 256) (l7 : 0 ≤ b7) (u7 : b7 < 256) :
    Calls Ybad.prog 20 #[.slice (some ⟨g, o, none⟩) n c] w fun e w' => e = .returned (.int .u64 (b7 + b6 * 256 + b5 * 65536 + b4 * 16777216 + b3 * 4294967296 + b2 * 1099511627776 + b1 * 281474976710656 + b0 * 72057594037927936)) ∧ ∃ m, w' = w.drewN m := by
  have q0 : 0 < n := by omega
  have q1 : (1 : Int) < (n : Int) := by omega
  have q2 : (2 : Int) < (n : Int) := by omega
  have q3 : (3 : Int) < (n : Int) := by omega
  have q4 : (4 : Int) < (n : Int) := by omega
  have q5 : (5 : Int) < (n : Int) := by omega
  have q6 : (6 : Int) < (n : Int) := by omega
  have q7 : (7 : Int) < (n : Int) := by omega
  go_enter Ybad.func20, Ybad.ntmps20
  go_wp2
  go_quiet (fail)
  go_wp2
  go_ret
  refine ⟨?_, ⟨_, rfl⟩⟩
  simp (disch := omega) only [u64_or8, u64_or16, u64_or24, u64_or32, u64_or40, u64_or48, u64_or56]
  rfl


/-- the number that eight bytes from o on spell, the greatest first -/
def be8 (B : Nat → Int) (o : Nat) : Int := B (o + 7) + B (o + 6) * 256 + B (o + 5) * 65536 + B (o + 4) * 16777216 + B (o + 3) * 4294967296 + B (o + 2) * 1099511627776 + B (o + 1) * 281474976710656 + B o * 72057594037927936
theorem beu64_fn (B : Nat → Int) (hB : ∀ j, 0 ≤ B j ∧ B j < 256) (g o n c : Nat) (w : World) (hn : 8 ≤ n) (hc : ∀ j, j < 8 → w.cell? ⟨g, o + j, none⟩ = some (.int .u8 (B (o + j)))) :
    Calls Ybad.prog 20 #[.slice (some ⟨g, o, none⟩) n c] w fun e w' => e = .returned (.int .u64 (be8 B o)) ∧ ∃ m, w' = w.drewN m :=
  beu64_any g o n c _ _ _ _ _ _ _ _ w hn (hc 0 (by omega)) (hc 1 (by omega)) (hc 2 (by omega)) (hc 3 (by omega)) (hc 4 (by omega)) (hc 5 (by omega)) (hc 6 (by omega)) (hc 7 (by omega))
    (hB _).1 (hB _).2 (hB _).1 (hB _).2 (hB _).1 (hB _).2 (hB _).1 (hB _).2 (hB _).1 (hB _).2 (hB _).1 (hB _).2 (hB _).1 (hB _).2 (hB _).1 (hB _).2
theorem lt8 {j : Nat} (h : j < 8) : j = 0 ∨ j = 1 ∨ j = 2 ∨ j = 3 ∨ j = 4 ∨ j = 5 ∨ j = 6 ∨ j = 7 := by omega
set_option maxHeartbeats 1000000 in
theorem from16_any (B : Nat → Int) (hB : ∀ j, 0 ≤ B j ∧ B j < 256) (zv : Option Addr) (w : World) (hz : w.cell? ⟨1, 0, none⟩ = some (.pointer zv)) :
    Calls Ybad.prog 19 #[.agg #[.int .u8 (B 0), .int .u8 (B 1), .int .u8 (B 2), .int .u8 (B 3), .int .u8 (B 4), .int .u8 (B 5), .int .u8 (B 6), .int .u8 (B 7), .int .u8 (B 8), .int .u8 (B 9), .int .u8 (B 10), .int .u8 (B 11), .int .u8 (B 12), .int .u8 (B 13), .int .u8 (B 14), .int .u8 (B 15)]] w fun e w' => 
      e = .returned (.agg #[.int .u64 (be8 B 0), .int .u64 (be8 B 8), .pointer zv]) ∧ Below w.heap.size w w' := by
  have hsz : 1 < w.heap.size := World.block_lt_of_cell? w _ hz
  have hsz0 : 0 < w.heap.size := by omega
  have HB := hB
  clear hB
  go_enter Ybad.func19, Ybad.ntmps19
  go_wp2
  go_region_with (first
    | (go_at_call 20; refine (beu64_fn B HB _ _ _ _ _ ?_ ?_).mono ?_; omega; (intro j hj; rcases lt8 hj with rfl | rfl | rfl | rfl | rfl | rfl | rfl | rfl <;> simp [go_sem]); rintro e w' ⟨rfl, nq, rfl⟩))
  all_goals go_wp2
  all_goals (refine bodyPost_ret (v := .agg #[.int .u64 (be8 B 0), .int .u64 (be8 B 8), .pointer zv]) (by simp [results, Ybad.results19, go_sem]) rfl ⟨rfl, ?_⟩)
  all_goals exact (((bdrewN (((Below.refl _ w).alloc (Nat.le_refl _) _).alloc (by simp) _) _).setCell (by simp) _).setCell (by simp) _).setCell (by simp) _

set_option maxHeartbeats 1000000 in
theorem put16_any (g o n c : Nat) (v : Int) (x0 x1 : Value) (w : World) (hn : 2 ≤ n) (v0 : 0 ≤ v) (v1 : v < 65536)
    (c0 : w.cell? ⟨g, o, none⟩ = some x0) (c1 : w.cell? ⟨g, o + 1, none⟩ = some x1) (f0 : w.frozen? ⟨g, o, none⟩ = false) (f1 : w.frozen? ⟨g, o + 1, none⟩ = false) :
    Calls Ybad.prog 17 #[.agg #[], .slice (some ⟨g, o, none⟩) n c, .int .u16 v] w fun e w' => e = .returned (.tuple #[]) ∧
      w' = ((w.setCell ⟨g, o, none⟩ (.int .u8 (v / 256))).setCell ⟨g, o + 1, none⟩ (.int .u8 (v % 256))).alloc (.cells #[] 76) := by
  have hg : g < w.heap.size := World.block_lt_of_cell? w _ c0
  have q0 : 0 < n := by omega
  have q1 : (1 : Int) < (n : Int) := by omega
  go_enter Ybad.func17, Ybad.ntmps17
  go_wp2
  go_end0
  exact ⟨rfl, rfl⟩
end Go.Proofs.YbulkawpeDoor

