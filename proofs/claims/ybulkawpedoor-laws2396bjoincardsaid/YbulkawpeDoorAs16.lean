import Derived.Test.YbulkawpeDoorNet
import Derived.Handy
namespace Go.Proofs.YbulkawpeDoor
open Go.RowKit
set_option linter.unusedVariables false
set_option maxHeartbeats 2000000 in
theorem beput64_any (g o n c : Nat) (v : Int) (x0 x1 x2 x3 x4 x5 x6 x7 : Value) (w : World) (hn : 8 ≤ n) (v0 : 0 ≤ v) (v1 : v < 18446744073709551616)
    (c0 : w.cell? ⟨g, o, none⟩ = some x0) (c1 : w.cell? ⟨g, o + 1, none⟩ = some x1) (c2 : w.cell? ⟨g, o + 2, none⟩ = some x2) (c3 : w.cell? ⟨g, o + 3, none⟩ = some x3) (c4 : w.cell? ⟨g, o + 4, none⟩ = some x4) (c5 : w.cell? ⟨g, o + 5, none⟩ = some x5) (c6 : w.cell? ⟨g, o + 6, none⟩ = some x6) (c7 : w.cell? ⟨g, o + 7, none⟩ = some x7)
    (hf : ∀ k, w.frozen? ⟨g, k, none⟩ = false) :
    Calls Ybad.prog 46 #[.slice (some ⟨g, o, none⟩) n c, .int .u64 v] w fun e w' => e = .returned (.tuple #[]) ∧
      w' = (((((((w.setCell ⟨g, o, none⟩ (.int .u8 (v / 72057594037927936))).setCell ⟨g, o + 1, none⟩ (.int .u8 (v / 281474976710656 % 256))).setCell ⟨g, o + 2, none⟩ (.int .u8 (v / 1099511627776 % 256))).setCell ⟨g, o + 3, none⟩ (.int .u8 (v / 4294967296 % 256))).setCell ⟨g, o + 4, none⟩ (.int .u8 (v / 16777216 % 256))).setCell ⟨g, o + 5, none⟩ (.int .u8 (v / 65536 % 256))).setCell ⟨g, o + 6, none⟩ (.int .u8 (v / 256 % 256))).setCell ⟨g, o + 7, none⟩ (.int .u8 (v % 256)) := by
  have q0 : 0 < n := by omega
  have q1 : (1 : Int) < (n : Int) := by omega
  have q2 : (2 : Int) < (n : Int) := by omega
  have q3 : (3 : Int) < (n : Int) := by omega
  have q4 : (4 : Int) < (n : Int) := by omega
  have q5 : (5 : Int) < (n : Int) := by omega
  have q6 : (6 : Int) < (n : Int) := by omega
  have q7 : (7 : Int) < (n : Int) := by omega
  go_enter Ybad.func46, Ybad.ntmps46
  go_wp2
  go_end0
  exact ⟨rfl, rfl⟩

theorem be8_in (B : Nat → Int) (hB : ∀ j, 0 ≤ B j ∧ B j < 256) (p : Nat) : 0 ≤ be8 B p ∧ be8 B p < 18446744073709551616 := by
  unfold be8
  have := hB p; have := hB (p + 1); have := hB (p + 2); have := hB (p + 3); have := hB (p + 4); have := hB (p + 5); have := hB (p + 6); have := hB (p + 7)
  omega
theorem be8_bytes (B : Nat → Int) (hB : ∀ j, 0 ≤ B j ∧ B j < 256) (p : Nat) :
    be8 B p / 72057594037927936 = B p ∧ be8 B p / 281474976710656 % 256 = B (p + 1) ∧ be8 B p / 1099511627776 % 256 = B (p + 2) ∧ be8 B p / 4294967296 % 256 = B (p + 3) ∧ be8 B p / 16777216 % 256 = B (p + 4) ∧ be8 B p / 65536 % 256 = B (p + 5) ∧ be8 B p / 256 % 256 = B (p + 6) ∧ be8 B p % 256 = B (p + 7) := by
  unfold be8
  have := hB p; have := hB (p + 1); have := hB (p + 2); have := hB (p + 3); have := hB (p + 4); have := hB (p + 5); have := hB (p + 6); have := hB (p + 7)
  refine ⟨?_, ?_, ?_, ?_, ?_, ?_, ?_, ?_⟩ <;> omega
theorem beput64_fn (B : Nat → Int) (hB : ∀ j, 0 ≤ B j ∧ B j < 256) (p : Nat) (g o n c : Nat) (w : World) (hn : 8 ≤ n)
    (hc : ∀ j, j < 8 → w.cell? ⟨g, o + j, none⟩ = some (.int .u8 0)) (hf : ∀ k, w.frozen? ⟨g, k, none⟩ = false) :
    Calls Ybad.prog 46 #[.slice (some ⟨g, o, none⟩) n c, .int .u64 (be8 B p)] w fun e w' => e = .returned (.tuple #[]) ∧
      w' = (((((((w.setCell ⟨g, o, none⟩ (.int .u8 (B p))).setCell ⟨g, o + 1, none⟩ (.int .u8 (B (p + 1)))).setCell ⟨g, o + 2, none⟩ (.int .u8 (B (p + 2)))).setCell ⟨g, o + 3, none⟩ (.int .u8 (B (p + 3)))).setCell ⟨g, o + 4, none⟩ (.int .u8 (B (p + 4)))).setCell ⟨g, o + 5, none⟩ (.int .u8 (B (p + 5)))).setCell ⟨g, o + 6, none⟩ (.int .u8 (B (p + 6)))).setCell ⟨g, o + 7, none⟩ (.int .u8 (B (p + 7))) := by
  have h := beput64_any g o n c (be8 B p) _ _ _ _ _ _ _ _ w hn (be8_in B hB p).1 (be8_in B hB p).2 (hc 0 (by omega)) (hc 1 (by omega)) (hc 2 (by omega)) (hc 3 (by omega)) (hc 4 (by omega)) (hc 5 (by omega)) (hc 6 (by omega)) (hc 7 (by omega)) hf
  obtain ⟨e0, e1, e2, e3, e4, e5, e6, e7⟩ := be8_bytes B hB p
  rw [e0, e1, e2, e3, e4, e5, e6, e7] at h
  exact h
/-- the cells of an address -/
def adCells (B : Nat → Int) : Array Value := #[.int .u8 (B 0), .int .u8 (B 1), .int .u8 (B 2), .int .u8 (B 3), .int .u8 (B 4), .int .u8 (B 5), .int .u8 (B 6), .int .u8 (B 7), .int .u8 (B 8), .int .u8 (B 9), .int .u8 (B 10), .int .u8 (B 11), .int .u8 (B 12), .int .u8 (B 13), .int .u8 (B 14), .int .u8 (B 15)]
set_option maxHeartbeats 2000000 in
theorem as16_any (B : Nat → Int) (hB : ∀ j, 0 ≤ B j ∧ B j < 256) (zv : Option Addr) (w : World) :
    Calls Ybad.prog 45 #[.agg #[.int .u64 (be8 B 0), .int .u64 (be8 B 8), .pointer zv]] w fun e w' =>
      e = .returned (.agg #[.int .u8 (B 0), .int .u8 (B 1), .int .u8 (B 2), .int .u8 (B 3), .int .u8 (B 4), .int .u8 (B 5), .int .u8 (B 6), .int .u8 (B 7), .int .u8 (B 8), .int .u8 (B 9), .int .u8 (B 10), .int .u8 (B 11), .int .u8 (B 12), .int .u8 (B 13), .int .u8 (B 14), .int .u8 (B 15)]) ∧ Below w.heap.size w w' := by
  have HB : Hid (∀ j, 0 ≤ B j ∧ B j < 256) := hB
  clear hB
  go_enter Ybad.func45, Ybad.ntmps45
  go_wp2
  go_region_with (first
    | (go_at_call 46; refine (beput64_fn B HB.out 0 _ _ _ _ _ ?_ ?_ ?_).mono ?_; omega; (intro j hj; rcases lt8 hj with rfl | rfl | rfl | rfl | rfl | rfl | rfl | rfl <;> simp [go_sem]); (intro k; simp [go_sem]); rintro e w' ⟨rfl, rfl⟩))
  go_wp2
  go_region_with (first
    | (go_at_call 46; refine (beput64_fn B HB.out 8 _ _ _ _ _ ?_ ?_ ?_).mono ?_; omega; (intro j hj; rcases lt8 hj with rfl | rfl | rfl | rfl | rfl | rfl | rfl | rfl <;> simp [go_sem]); (intro k; simp [go_sem]); rintro e w' ⟨rfl, rfl⟩))
  go_wp2
  refine bodyPost_ret (v := .agg #[.int .u8 (B 0), .int .u8 (B 1), .int .u8 (B 2), .int .u8 (B 3), .int .u8 (B 4), .int .u8 (B 5), .int .u8 (B 6), .int .u8 (B 7), .int .u8 (B 8), .int .u8 (B 9), .int .u8 (B 10), .int .u8 (B 11), .int .u8 (B 12), .int .u8 (B 13), .int .u8 (B 14), .int .u8 (B 15)]) (by simp [results, Ybad.results45, go_sem]) rfl ⟨rfl, ?_⟩
  go_grown
end Go.Proofs.YbulkawpeDoor
