import Derived.Test.YbulkawpeMin
import Derived.Deep.RegionLaw
import Derived.Deep.RegionHeld3
/- Contracts: replies.next, Timer.Next, the closure of Node.Next. -/
namespace Go.Proofs.Ybulkawpe
open Go.RowKit
set_option linter.unusedVariables false
set_option maxRecDepth 100000
set_option maxHeartbeats 1000000 in
theorem next_none (E o c : Nat) (a : Option Addr) (w : World) (h : w.cell? ⟨E, o, none⟩ = some (.slice a 0 c)) :
    Calls Yba.prog 17 #[.pointer (some ⟨E, o, none⟩)] w fun e w' => e = .returned (.tuple #[.agg #[.int .u64 0, .int .i64 0, .pointer none], .bool false]) ∧ Below w.heap.size w w' := by
  have lE : E < w.heap.size := World.block_lt_of_cell? _ _ h
  go_enter Yba.func17, Yba.ntmps17
  go_wp2
  refine bodyPost_ret (v := .tuple #[.agg #[.int .u64 0, .int .i64 0, .pointer none], .bool false]) (by simp [results, Yba.results17, go_sem]) rfl ⟨rfl, ?_⟩
  go_grown
theorem field67 (m : Int) (w : World) : (Instr.field 67 (.agg #[.int .u64 0, .int .u64 0, .pointer none, .int .u16 0, .slice none 0 0, .bool false, .int .u64 (tN m), .int .i64 (tS m), .pointer none]) 3).run Yba.prog w = .ok (.agg #[.int .u64 (tN m), .int .i64 (tS m), .pointer none]) w := by kernel_rfl
set_option maxHeartbeats 1000000 in
theorem next_some (E o G n c base : Nat) (R : List Int) (w : World) (h : w.cell? ⟨E, o, none⟩ = some (.slice (some ⟨G, 0, none⟩) n c)) (ho : w.ownsRow base 67 9 (.slice (some ⟨G, 0, none⟩) n c) n (repF R)) (hn : R.length = n) (h1 : 1 ≤ n) (h2 : n ≤ 256) :
    Calls Yba.prog 17 #[.pointer (some ⟨E, o, none⟩)] w fun e w' => ∃ m, e = .returned (.tuple #[.agg #[.int .u64 (tN m), .int .i64 (tS m), .pointer none], .bool true]) ∧ m ∈ R ∧ (∀ r ∈ R, m ≤ r) ∧ Below w.heap.size w w' := by
  have lE : E < w.heap.size := World.block_lt_of_cell? _ _ h
  have HO := hid ho
  have HN := hid hn
  clear ho hn
  go_enter Yba.func17, Yba.ntmps17
  go_wp2_with fail
  refine (minFunc_any G n c base R _ (World.ownsRow.alloc HO.out _) HN.out h1 h2).mono ?_
  rintro e w1 ⟨m, rfl, hmem, hmin, hb⟩
  have HM := hid hmem
  have HI := hid hmin
  have hB : Blk w1 w.heap.size #[.int .u64 0, .int .i64 0, .pointer none] 36 := Blk.below (Blk.new w _ 36) hb (by simp)
  have hlt := hB.lt
  obtain ⟨k0, k1, k2, kf⟩ := hB.cells3
  have hb0 : Below w.heap.size w w1 := ((Below.refl _ w).alloc (Nat.le_refl _) _).trans (hb.mono (by simp))
  clear hb hmem hmin
  have hfl := field67 m
  go_wp2
  refine bodyPost_ret (v := .tuple #[.agg #[.int .u64 (tN m), .int .i64 (tS m), .pointer none], .bool true]) (by simp [results, Yba.results17, go_sem, k0, k1, k2]) rfl ⟨m, rfl, HM.out, HI.out, ?_⟩
  go_grown
set_option maxHeartbeats 1000000 in
/-- a timer as it is made: its Next is the zero time -/
theorem timer_any (B : Nat) (x0 x1 x2 x3 x4 x5 x6 x7 x11 : Value) (w : World) (h : Blk w B #[x0, x1, x2, x3, x4, x5, x6, x7, .int .u64 0, .int .i64 0, .pointer none, x11, .bool false] 46) :
    Calls Yba.prog 16 #[.pointer (some ⟨B, 0, none⟩)] w fun e w' => e = .returned (.agg #[.int .u64 0, .int .i64 0, .pointer none]) ∧ Below w.heap.size w w' := by
  obtain ⟨k0, k1, k2, k3, k4, k5, k6, k7, k8, k9, k10, k11, k12, kf⟩ := h.cells13
  have lB := h.lt
  go_enter Yba.func16, Yba.ntmps16
  go_wp2
  refine bodyPost_ret (v := .agg #[.int .u64 0, .int .i64 0, .pointer none]) (by simp [results, Yba.results16, go_sem]) rfl ⟨rfl, ?_⟩
  go_grown
set_option maxHeartbeats 1000000 in
/-- the closure 'earliest': the variable behind X becomes the earlier of the two -/
theorem earliest_any (X : Nat) (T G : Int) (w : World) (h : Blk w X #[.int .u64 (tN G), .int .i64 (tS G), .pointer none] 36) :
    Calls Yba.prog 15 #[.agg #[.int .u64 (tN T), .int .i64 (tS T), .pointer none], .pointer (some ⟨X, 0, none⟩)] w fun e w' =>
      e = .returned (.tuple #[]) ∧ Blk w' X #[.int .u64 (tN (min T G)), .int .i64 (tS (min T G)), .pointer none] 36 ∧ Fr (fun j => j = X) w w' := by
  obtain ⟨k0, k1, k2, kf⟩ := h.cells3
  have lX := h.lt
  by_cases hc : T < G
  · have hm : min T G = T := by omega
    rw [hm]
    have hd : decide (T < G) = true := by simpa using hc
    clear hm
    go_enter Yba.func15, Yba.ntmps15
    go_wp2_with fail
    refine (before_T T G _).mono ?_
    rintro e w1 ⟨he, hb⟩
    rw [hd] at he
    subst he
    have hX1 : Blk w1 X #[.int .u64 (tN G), .int .i64 (tS G), .pointer none] 36 := (h.alloc _).below hb (by simp; omega)
    have hV1 : Blk w1 w.heap.size #[.int .u64 (tN T), .int .i64 (tS T), .pointer none] 36 := (Blk.new w _ _).below hb (by simp)
    have FR := hid (((Fr.refl (fun j => j = X) w).alloc _).trans (Fr.of_grown hb) (fun _ _ h => h.elim))
    clear hb k0 k1 k2 kf
    obtain ⟨k0, k1, k2, kf⟩ := hX1.cells3
    obtain ⟨v0, v1, v2, vf⟩ := hV1.cells3
    have lX1 := hX1.lt
    have lV1 := hV1.lt
    go_wp2
    go_end0
    exact ⟨rfl, hX1.sets3 _ _ _, ((FR.out.setCell (fun _ => rfl) _).setCell (fun _ => rfl) _).setCell (fun _ => rfl) _⟩
  · have hm : min T G = G := by omega
    rw [hm]
    have hd : decide (T < G) = false := by simpa using hc
    clear hm
    go_enter Yba.func15, Yba.ntmps15
    go_wp2_with fail
    refine (before_T T G _).mono ?_
    rintro e w1 ⟨he, hb⟩
    rw [hd] at he
    subst he
    have hX1 : Blk w1 X #[.int .u64 (tN G), .int .i64 (tS G), .pointer none] 36 := (h.alloc _).below hb (by simp; omega)
    have FR := hid (((Fr.refl (fun j => j = X) w).alloc _).trans (Fr.of_grown hb) (fun _ _ h => h.elim))
    clear hb
    go_wp2
    go_end0
    exact ⟨rfl, hX1, FR.out⟩
end Go.Proofs.Ybulkawpe
