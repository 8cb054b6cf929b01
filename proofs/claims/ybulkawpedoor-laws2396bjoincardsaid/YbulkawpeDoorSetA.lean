import Derived.Test.YbulkawpeDoorAs16
import Derived.Test.YbulkawpeDoorAddEp
import Derived.Deep.RegionLaw
import Derived.Handy
/- Contract: (*zzs2396bnode).SetAddrs. -/
namespace Go.Proofs.YbulkawpeDoor
open Go.RowKit
set_option linter.unusedVariables false
theorem info51 : (Ybad.prog.info? 51).map (fun i => (i.zero, i.size, i.bytes)) = some (some (.agg #[.int .u8 0, .int .u8 0, .int .u8 0, .int .u8 0, .int .u8 0, .int .u8 0, .int .u8 0, .int .u8 0, .int .u8 0, .int .u8 0, .int .u8 0, .int .u8 0, .int .u8 0, .int .u8 0, .int .u8 0, .int .u8 0]), 16, 16) := by kernel_rfl
/-- the cells of the first k addresses -/
def flat (B : Nat → Nat → Int) : Nat → List Value
  | 0 => []
  | k + 1 => flat B k ++ (adCells (B k)).toList
set_option maxHeartbeats 1000000 in
theorem setAddrs_any (N G m c : Nat) (v2 v3 : Value) (B : Nat → Nat → Int) (zv : Option Addr) (w : World)
    (hN : Blk w N #[.slice none 0 0, .slice none 0 0, v2, v3] 38) (hB : ∀ e, e < m → ∀ j, 0 ≤ B e j ∧ B e j < 256) (hG : G < w.heap.size) (hGN : G ≠ N) (hm : m ≤ 1024)
    (hc : ∀ e, e < m → w.cell? ⟨G, e * 3, none⟩ = some (.int .u64 (be8 (B e) 0)) ∧ w.cell? ⟨G, e * 3 + 1, none⟩ = some (.int .u64 (be8 (B e) 8)) ∧ w.cell? ⟨G, e * 3 + 2, none⟩ = some (.pointer zv)) :
    Calls Ybad.prog 44 #[.pointer (some ⟨N, 0, none⟩), .slice (some ⟨G, 0, none⟩) m c] w fun e w' =>
      e = .returned (.tuple #[]) ∧ ∃ k' a', Blk w' N #[k', a', v2, v3] 38 ∧ w'.ownsRow w.heap.size 3 1 k' 1 [.int .i64 1] ∧ w'.ownsRow w.heap.size 51 16 a' m (flat B m) ∧ Fr (fun j => j = N) w w' := by
  obtain ⟨c0, c1, c2, c3, cf⟩ := hN.cells4
  have hlt := hN.lt
  have HB : Hid (∀ e, e < m → ∀ j, 0 ≤ B e j ∧ B e j < 256) := hB
  have HC : Hid (∀ e, e < m → w.cell? ⟨G, e * 3, none⟩ = some (.int .u64 (be8 (B e) 0)) ∧ w.cell? ⟨G, e * 3 + 1, none⟩ = some (.int .u64 (be8 (B e) 8)) ∧ w.cell? ⟨G, e * 3 + 2, none⟩ = some (.pointer zv)) := hc
  clear hB hc
  go_enter Ybad.func44, Ybad.ntmps44
  go_wp2_with (at_builtin; refine wpList_app1 rfl (.tmp 10) (.tmp 11) 33 rfl 3 _ 1 8 Ybad.underlying33 info3 rfl (by decide) w.heap.size w.heap.size (.slice none 0 0) 0 [] #[.int .i64 1] rfl rfl ?hown ?hR rfl ?h1 ?hn (by decide) ?hbase ?_)
  case hown => exact World.ownsRow_nil _ _ _ _
  case hR => exact Blk.new' (by simp)
  case h1 => simp [Value.oneCell']
  case hn => omega
  case hbase => simp
  intro g1 cap1 w1 own1 fr1 at1 lt1
  have hN1 : Blk w1 N #[.slice none 0 0, .slice none 0 0, v2, v3] 38 := (hN.alloc _).fr fr1 (by simp [Value.ownBlock])
  have FR1 : Hid (Fr (fun j => j = N) w w1) := ((Fr.refl _ w).alloc _).trans fr1 (fun j _ h => by simp [Value.ownBlock] at h)
  have gN1 : g1 ≠ N := fun h => row_ne own1 hN1 (by decide) (by simp [Value.ownBlock, h])
  have OK1 : Hid (w1.ownsRow w.heap.size 3 1 (.slice (some ⟨g1, 0, none⟩) 1 cap1) 1 [.int .i64 1]) := own1
  clear own1 fr1 at1 c0 c1 c2 c3 cf
  obtain ⟨c0, c1, c2, c3, cf⟩ := hN1.cells4
  have hlt1 := hN1.lt
  go_wp2
  go_loopw [17] (fun v17 wr => ∃ (k : Nat) (a' : Value), k ≤ m ∧ v17 = .int .i64 k ∧ Blk wr N #[.slice (some ⟨g1, 0, none⟩) 1 cap1, a', v2, v3] 38 ∧ wr.ownsRow w.heap.size 3 1 (.slice (some ⟨g1, 0, none⟩) 1 cap1) 1 [.int .i64 1] ∧ wr.ownsRow w.heap.size 51 16 a' k (flat B k) ∧ Fr (fun j => j = N) w wr) (fun v17 wr => m - (intOf v17).toNat)
  case atStart => exact ⟨0, .slice none 0 0, Nat.zero_le _, rfl, hN1.set 0 _, row_set_other OK1.out (by simp [Value.ownBlock, gN1]) _, World.ownsRow_nil _ _ _ _, FR1.out.setCell (fun _ => rfl) _⟩
  case round =>
    obtain ⟨k, a', hk, rfl, hNr, okr, oar, frr⟩ := hrel
    clear c0 c1 c2 c3 cf
    obtain ⟨c0, c1, c2, c3, cf⟩ := hNr.cells4
    have hltr := hNr.lt
    have OKR : Hid (wr.ownsRow w.heap.size 3 1 (.slice (some ⟨g1, 0, none⟩) 1 cap1) 1 [.int .i64 1]) := okr
    have OAR : Hid (wr.ownsRow w.heap.size 51 16 a' k (flat B k)) := oar
    have FRR : Hid (Fr (fun j => j = N) w wr) := frr
    have aN := row_ne oar hNr (by decide)
    clear okr oar frr
    by_cases hlt' : k < m
    · have h3 := HC.out k hlt'
      have e0 := FRR.out.cell_some h3.1 hGN
      have e1 := FRR.out.cell_some h3.2.1 hGN
      have e2 := FRR.out.cell_some h3.2.2 hGN
      clear h3
      have hGr : G < wr.heap.size := Nat.lt_of_lt_of_le hG FRR.out.size
      go_wp2
      go_region_law (first
        | (refine step_app1 rfl (.tmp 25) (.tmp 28) 34 rfl 51 _ 16 16 Ybad.underlying34 info51 rfl (by decide) w.heap.size wv.heap.size a' k (flat B k) (adCells (B k)) rfl rfl (by exact OAV.out.alloc _) (by exact Blk.new' rfl) rfl (by simp [Value.oneCell', adCells]) (by omega) (by decide) (by simp; have := FRV.out.size; omega) ?_
           intro g3 cap3 w3 own3 fr3 at3 lt3
           have hN3 : Blk w3 N #[.slice (some ⟨g1, 0, none⟩) 1 cap1, a', v2, v3] 38 := Blk.fr (hNv.alloc _) fr3 aN
           have OK3 : Hid (w3.ownsRow w.heap.size 3 1 (.slice (some ⟨g1, 0, none⟩) 1 cap1) 1 [.int .i64 1]) := row_fr (OKV.out.alloc _) fr3 (fun g hg => row_ne_row OKV.out OAV.out (by decide) hg)
           have OA3 : Hid (w3.ownsRow w.heap.size 51 16 (.slice (some ⟨g3, 0, none⟩) (k + 1) cap3) (k + 1) (flat B (k + 1))) := own3
           have FR3 : Hid (Fr (fun j => j = N) w w3) := Fr.trans (FRV.out.alloc _) fr3 (fun j hj h => by have := row_base OAV.out h; omega)
           have gN3 : g3 ≠ N := fun h => row_ne own3 hN3 (by decide) (by simp [Value.ownBlock, h])
           clear own3 fr3 at3
           obtain ⟨b0, b1, b2, b3, bf⟩ := hN3.cells4
           have hlt3 := hN3.lt)
        | (go_simp
           go_at_call 45
           refine (as16_any (B k) (HB.out k hlt') zv _).mono ?_
           rintro e wv ⟨rfl, hbv⟩
           have hNv : Blk wv N #[.slice (some ⟨g1, 0, none⟩) 1 cap1, a', v2, v3] 38 := Blk.below (Blk.drew (hNr.alloc _)) hbv (by simp; omega)
           have OAV : Hid (wv.ownsRow w.heap.size 51 16 a' k (flat B k)) := row_fr (World.ownsRow.drew (OAR.out.alloc _)) (Fr.of_grown hbv) (fun _ _ h => h)
           have OKV : Hid (wv.ownsRow w.heap.size 3 1 (.slice (some ⟨g1, 0, none⟩) 1 cap1) 1 [.int .i64 1]) := row_fr (World.ownsRow.drew (OKR.out.alloc _)) (Fr.of_grown hbv) (fun _ _ h => h)
           have FRV : Hid (Fr (fun j => j = N) w wv) := Fr.trans (Fr.drew (FRR.out.alloc _)) (Fr.of_grown hbv) (fun _ _ h => h.elim)
           clear hbv
           obtain ⟨d0, d1, d2, d3, df⟩ := hNv.cells4
           have hltv := hNv.lt))
      all_goals
        go_wp2
        go_roundw
        case rel => exact ⟨k + 1, _, by omega, by go_num, hN3.set 1 _, row_set_other OK3.out (by simp [Value.ownBlock, gN1]) _, row_set_other OA3.out (by simp [Value.ownBlock, gN3]) _, FR3.out.setCell (fun _ => rfl) _⟩
        case measure => simp [intOf]; omega
    · go_wp2
      go_end0
      obtain rfl : k = m := by omega
      exact ⟨rfl, _, _, hNr, OKR.out, OAR.out, FRR.out⟩
end Go.Proofs.YbulkawpeDoor
