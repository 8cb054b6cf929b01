import Derived.Test.YbulkawpeDoorNet
import Derived.Handy
/- Contract: (*sim.Home).Addr. -/
namespace Go.Proofs.YbulkawpeDoor
open Go.RowKit
set_option linter.unusedVariables false
/-- the bytes of fe80::<i + 1>:<id> -/
def adB (i id : Int) : Nat → Int
  | 0 => 254 | 1 => 128 | 12 => (i + 1) / 256 | 13 => (i + 1) % 256 | 14 => id / 256 | 15 => id % 256 | _ => 0
theorem adB_in (i id : Int) (i0 : 0 ≤ i) (i1 : i < 65535) (d0 : 0 ≤ id) (d1 : id < 65536) : ∀ j, 0 ≤ adB i id j ∧ adB i id j < 256 := by
  intro j
  unfold adB
  split <;> omega
theorem from16_ad (i id : Int) (i0 : 0 ≤ i) (i1 : i < 65535) (d0 : 0 ≤ id) (d1 : id < 65536) (zv : Option Addr) (w : World) (hz : w.cell? ⟨1, 0, none⟩ = some (.pointer zv)) :
    Calls Ybad.prog 19 #[.agg #[.int .u8 254, .int .u8 128, .int .u8 0, .int .u8 0, .int .u8 0, .int .u8 0, .int .u8 0, .int .u8 0, .int .u8 0, .int .u8 0, .int .u8 0, .int .u8 0, .int .u8 ((i + 1) / 256), .int .u8 ((i + 1) % 256), .int .u8 (id / 256), .int .u8 (id % 256)]] w fun e w' => 
      e = .returned (.agg #[.int .u64 (be8 (adB i id) 0), .int .u64 (be8 (adB i id) 8), .pointer zv]) ∧ Below w.heap.size w w' :=
  from16_any (adB i id) (adB_in i id i0 i1 d0 d1) zv w hz
set_option maxHeartbeats 2000000 in
theorem addr_any (h : Value) (i id : Int) (zv : Option Addr) (w : World) (hz : w.cell? ⟨1, 0, none⟩ = some (.pointer zv)) (i0 : 0 ≤ i) (i1 : i < 65535) (d0 : 0 ≤ id) (d1 : id < 65536) :
    Calls Ybad.prog 15 #[h, .int .i64 i, .int .u32 id] w fun e w' =>
      e = .returned (.agg #[.int .u64 (be8 (adB i id) 0), .int .u64 (be8 (adB i id) 8), .pointer zv, .int .u16 8231]) ∧ Below w.heap.size w w' := by
  have hsz : 1 < w.heap.size := World.block_lt_of_cell? w _ hz
  have hsz0 : 0 < w.heap.size := by omega
  have hw1 : IntKind.i64.wrap (i + 1) = i + 1 := by rw [IntKind.wrap_i64]; omega
  have hw2 : IntKind.u16.wrap (i + 1) = i + 1 := by rw [IntKind.wrap_u16]; omega
  have hw3 : IntKind.u16.wrap id = id := by rw [IntKind.wrap_u16]; omega
  go_enter Ybad.func15, Ybad.ntmps15
  go_wp2
  go_region_with (first
    | (go_at_call 17; refine (put16_any _ _ _ _ (i + 1) (.int .u8 0) (.int .u8 0) _ ?_ ?_ ?_ ?_ ?_ ?_ ?_).mono ?_; omega; omega; omega; (simp [go_sem]); (simp [go_sem]); (simp [go_sem]); (simp [go_sem]); rintro e w' ⟨rfl, rfl⟩))
  go_wp2
  go_region_with (first
    | (go_at_call 17; refine (put16_any _ _ _ _ id (.int .u8 0) (.int .u8 0) _ ?_ ?_ ?_ ?_ ?_ ?_ ?_).mono ?_; omega; omega; omega; (simp [go_sem]); (simp [go_sem]); (simp [go_sem]); (simp [go_sem]); rintro e w' ⟨rfl, rfl⟩))
  go_wp2_with fail
  refine (from16_ad i id i0 i1 d0 d1 zv _ ?_).mono ?_
  · exact cell_up (by go_grown) hz
  rintro e w1 ⟨rfl, hb⟩
  have hs : w.heap.size < w1.heap.size := by have := hb.size; simp at this; omega
  have hs1 : w.heap.size + 1 < w1.heap.size := by have := hb.size; simp at this; omega
  have hB : Blk w1 w.heap.size #[.int .u64 0, .int .u64 0, .pointer none, .int .u16 0] 70 := Blk.below (((Blk.new w _ 70).alloc _).alloc _ |>.alloc _ |>.drew |>.drew) hb (by simp; omega)
  obtain ⟨k0, k1, k2, k3, f0⟩ := hB.cells4
  have hb0 : Below w.heap.size w w1 := (((((((Below.refl _ w).alloc (Nat.le_refl _) _).alloc (by simp) _).alloc (by simp; omega) _).alloc (by simp; omega) _).drew).drew).trans (hb.mono (by simp; omega))
  clear hb
  go_wp2
  refine bodyPost_ret (v := .agg #[.int .u64 (be8 (adB i id) 0), .int .u64 (be8 (adB i id) 8), .pointer zv, .int .u16 8231]) (by simp [results, Ybad.results15, go_sem, k0, k1, k2, k3, hs]) rfl ⟨rfl, ?_⟩
  go_grown
end Go.Proofs.YbulkawpeDoor
