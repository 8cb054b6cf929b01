import Derived.Test.YbulkawpeTime
import Derived.Deep.RegionLaw
import Derived.Deep.RegionHeld3
/- Contracts: peerTimeout; slices.MinFunc over replies. -/
namespace Go.Proofs.Ybulkawpe
open Go.RowKit
set_option linter.unusedVariables false
theorem conv1000 (w : World) : (convert 26 27 (.int .i64 1000)).run Yba.prog w = .ok (.float .f64 4652007308841189376) w := by kernel_rfl
theorem mul2 (w : World) : (binOp .mul 27 (.float .f64 4652007308841189376) (.float .f64 4611686018427387904)).run Yba.prog w = .ok (.float .f64 4656510908468559872) w := by kernel_rfl
theorem conv2000 (w : World) : (convert 27 26 (.float .f64 4656510908468559872)).run Yba.prog w = .ok (.int .i64 2000) w := by kernel_rfl
set_option maxHeartbeats 1000000 in
theorem peerTimeout_any (g : Int) (w : World) :
    Calls Yba.prog 4 #[.agg #[.int .i64 0, .int .i64 0, .int .i64 0, .int .i64 1000, .float .f64 4611686018427387904, .int .i64 g, .int .i64 0, .int .i64 0, .int .i64 0, .int .i64 0, .int .i64 0, .int .i64 0, .int .i64 0, .int .i64 0]] w fun e w' => e = .returned (.int .i64 2000) ∧ Below w.heap.size w w' := by
  have h1 := conv1000
  have h2 := mul2
  have h3 := conv2000
  go_enter Yba.func4, Yba.ntmps4
  go_wp2
  go_ret
  exact ⟨by simp, by go_grown⟩

theorem Blk.sets9 {w : World} {g : Nat} {x0 x1 x2 x3 x4 x5 x6 x7 x8 : Value} {e : TypeId} (h : Blk w g #[x0, x1, x2, x3, x4, x5, x6, x7, x8] e) (y0 y1 y2 y3 y4 y5 y6 y7 y8 : Value) : Blk (((((((((w.setCell ⟨g, 0, none⟩ y0).setCell ⟨g, 1, none⟩ y1).setCell ⟨g, 2, none⟩ y2).setCell ⟨g, 3, none⟩ y3).setCell ⟨g, 4, none⟩ y4).setCell ⟨g, 5, none⟩ y5).setCell ⟨g, 6, none⟩ y6).setCell ⟨g, 7, none⟩ y7).setCell ⟨g, 8, none⟩ y8) g #[y0, y1, y2, y3, y4, y5, y6, y7, y8] e := by
  have h0 : Blk (w.setCell ⟨g, 0, none⟩ y0) g #[y0, x1, x2, x3, x4, x5, x6, x7, x8] e := h.set 0 y0
  have h1 : Blk ((w.setCell ⟨g, 0, none⟩ y0).setCell ⟨g, 1, none⟩ y1) g #[y0, y1, x2, x3, x4, x5, x6, x7, x8] e := h0.set 1 y1
  have h2 : Blk (((w.setCell ⟨g, 0, none⟩ y0).setCell ⟨g, 1, none⟩ y1).setCell ⟨g, 2, none⟩ y2) g #[y0, y1, y2, x3, x4, x5, x6, x7, x8] e := h1.set 2 y2
  have h3 : Blk ((((w.setCell ⟨g, 0, none⟩ y0).setCell ⟨g, 1, none⟩ y1).setCell ⟨g, 2, none⟩ y2).setCell ⟨g, 3, none⟩ y3) g #[y0, y1, y2, y3, x4, x5, x6, x7, x8] e := h2.set 3 y3
  have h4 : Blk (((((w.setCell ⟨g, 0, none⟩ y0).setCell ⟨g, 1, none⟩ y1).setCell ⟨g, 2, none⟩ y2).setCell ⟨g, 3, none⟩ y3).setCell ⟨g, 4, none⟩ y4) g #[y0, y1, y2, y3, y4, x5, x6, x7, x8] e := h3.set 4 y4
  have h5 : Blk ((((((w.setCell ⟨g, 0, none⟩ y0).setCell ⟨g, 1, none⟩ y1).setCell ⟨g, 2, none⟩ y2).setCell ⟨g, 3, none⟩ y3).setCell ⟨g, 4, none⟩ y4).setCell ⟨g, 5, none⟩ y5) g #[y0, y1, y2, y3, y4, y5, x6, x7, x8] e := h4.set 5 y5
  have h6 : Blk (((((((w.setCell ⟨g, 0, none⟩ y0).setCell ⟨g, 1, none⟩ y1).setCell ⟨g, 2, none⟩ y2).setCell ⟨g, 3, none⟩ y3).setCell ⟨g, 4, none⟩ y4).setCell ⟨g, 5, none⟩ y5).setCell ⟨g, 6, none⟩ y6) g #[y0, y1, y2, y3, y4, y5, y6, x7, x8] e := h5.set 6 y6
  have h7 : Blk ((((((((w.setCell ⟨g, 0, none⟩ y0).setCell ⟨g, 1, none⟩ y1).setCell ⟨g, 2, none⟩ y2).setCell ⟨g, 3, none⟩ y3).setCell ⟨g, 4, none⟩ y4).setCell ⟨g, 5, none⟩ y5).setCell ⟨g, 6, none⟩ y6).setCell ⟨g, 7, none⟩ y7) g #[y0, y1, y2, y3, y4, y5, y6, y7, x8] e := h6.set 7 y7
  have h8 : Blk (((((((((w.setCell ⟨g, 0, none⟩ y0).setCell ⟨g, 1, none⟩ y1).setCell ⟨g, 2, none⟩ y2).setCell ⟨g, 3, none⟩ y3).setCell ⟨g, 4, none⟩ y4).setCell ⟨g, 5, none⟩ y5).setCell ⟨g, 6, none⟩ y6).setCell ⟨g, 7, none⟩ y7).setCell ⟨g, 8, none⟩ y8) g #[y0, y1, y2, y3, y4, y5, y6, y7, y8] e := h7.set 8 y8
  exact h8
theorem Blk.sets3 {w : World} {g : Nat} {x0 x1 x2 : Value} {e : TypeId} (h : Blk w g #[x0, x1, x2] e) (y0 y1 y2 : Value) : Blk (((w.setCell ⟨g, 0, none⟩ y0).setCell ⟨g, 1, none⟩ y1).setCell ⟨g, 2, none⟩ y2) g #[y0, y1, y2] e := by
  have h0 : Blk (w.setCell ⟨g, 0, none⟩ y0) g #[y0, x1, x2] e := h.set 0 y0
  have h1 : Blk ((w.setCell ⟨g, 0, none⟩ y0).setCell ⟨g, 1, none⟩ y1) g #[y0, y1, x2] e := h0.set 1 y1
  have h2 : Blk (((w.setCell ⟨g, 0, none⟩ y0).setCell ⟨g, 1, none⟩ y1).setCell ⟨g, 2, none⟩ y2) g #[y0, y1, y2] e := h1.set 2 y2
  exact h2
/-- a reply that leaves at T: its cells -/
def repC (T : Int) : List Value := [.int .u64 0, .int .u64 0, .pointer none, .int .u16 0, .slice none 0 0, .bool false, .int .u64 (tN T), .int .i64 (tS T), .pointer none]
def repF : List Int → List Value
  | [] => []
  | T :: l => repC T ++ repF l
set_option maxHeartbeats 1000000 in
theorem next1_any (T U : Int) (w : World) :
    Calls Yba.prog 20 #[.agg #[.int .u64 0, .int .u64 0, .pointer none, .int .u16 0, .slice none 0 0, .bool false, .int .u64 (tN T), .int .i64 (tS T), .pointer none], .agg #[.int .u64 0, .int .u64 0, .pointer none, .int .u16 0, .slice none 0 0, .bool false, .int .u64 (tN U), .int .i64 (tS U), .pointer none]] w fun e w' => e = .returned (.int .i64 (cmpI T U)) ∧ Below w.heap.size w w' := by
  go_enter Yba.func20, Yba.ntmps20
  go_wp2_with fail
  refine (compare_T T U _).mono ?_
  rintro e w1 ⟨rfl, hb⟩
  have hb0 : Below w.heap.size w w1 := (((Below.refl _ w).alloc (Nat.le_refl _) _).alloc (by simp) _).trans (hb.mono (by simp; omega))
  clear hb
  go_wp2
  go_ret
  exact ⟨rfl, hb0⟩
theorem repF_len (R : List Int) : (repF R).length = R.length * 9 := by
  induction R with
  | nil => rfl
  | cons T l ih => simp [repF, repC, ih]; omega
theorem repF_get (R : List Int) (k i : Nat) (T : Int) (h : R[k]? = some T) (hi : i < 9) : (repF R)[k * 9 + i]? = (repC T)[i]? := by
  induction R generalizing k with
  | nil => simp at h
  | cons U l ih =>
    cases k with
    | zero =>
      simp at h; subst h
      rw [repF, List.getElem?_append_left (by simp [repC]; omega)]; simp
    | succ k =>
      rw [List.getElem?_cons_succ] at h
      rw [repF, List.getElem?_append_right (by simp [repC]; omega), ← ih k h]
      congr 1
      simp [repC]; omega
set_option maxHeartbeats 2000000 in
theorem minFunc_any (G n c base : Nat) (R : List Int) (w : World) (ho : w.ownsRow base 67 9 (.slice (some ⟨G, 0, none⟩) n c) n (repF R)) (hn : R.length = n) (h1 : 1 ≤ n) (h2 : n ≤ 256) :
    Calls Yba.prog 19 #[.slice (some ⟨G, 0, none⟩) n c, .func (.func 20) #[] #[]] w fun e w' =>
      ∃ m, e = .returned (.agg #[.int .u64 0, .int .u64 0, .pointer none, .int .u16 0, .slice none 0 0, .bool false, .int .u64 (tN m), .int .i64 (tS m), .pointer none]) ∧ m ∈ R ∧ (∀ r ∈ R, m ≤ r) ∧ Below w.heap.size w w' := by
  have HO := hid ho
  have lG := row_lt ho (g := G) rfl
  obtain ⟨T0, hT0⟩ : ∃ T, R[0]? = some T := ⟨R[0]'(by omega), List.getElem?_eq_getElem _⟩
  have HT0 := hid hT0
  have g0 := row_cell ho (j := 0) (repF_get R 0 0 T0 hT0 (by omega))
  have g1 := row_cell ho (j := 1) (repF_get R 0 1 T0 hT0 (by omega))
  have g2 := row_cell ho (j := 2) (repF_get R 0 2 T0 hT0 (by omega))
  have g3 := row_cell ho (j := 3) (repF_get R 0 3 T0 hT0 (by omega))
  have g4 := row_cell ho (j := 4) (repF_get R 0 4 T0 hT0 (by omega))
  have g5 := row_cell ho (j := 5) (repF_get R 0 5 T0 hT0 (by omega))
  have g6 := row_cell ho (j := 6) (repF_get R 0 6 T0 hT0 (by omega))
  have g7 := row_cell ho (j := 7) (repF_get R 0 7 T0 hT0 (by omega))
  have g8 := row_cell ho (j := 8) (repF_get R 0 8 T0 hT0 (by omega))
  clear ho hT0
  go_enter Yba.func19, Yba.ntmps19
  go_wp2
  clear g0 g1 g2 g3 g4 g5 g6 g7 g8
  go_loopw [6] (fun v6 wr => ∃ (k : Nat) (m : Int), 1 ≤ k ∧ k ≤ n ∧ v6 = .int .i64 k ∧ m ∈ R.take k ∧ (∀ r ∈ R.take k, m ≤ r) ∧ Blk wr w.heap.size #[.int .u64 0, .int .u64 0, .pointer none, .int .u16 0, .slice none 0 0, .bool false, .int .u64 0, .int .i64 0, .pointer none] 67 ∧ Blk wr (w.heap.size + 1) #[.int .u64 0, .int .u64 0, .pointer none, .int .u16 0, .slice none 0 0, .bool false, .int .u64 (tN m), .int .i64 (tS m), .pointer none] 67 ∧ Below w.heap.size w wr) (fun v6 wr => n - (intOf v6).toNat)
  case atStart =>
    refine ⟨1, T0, Nat.le_refl _, h1, rfl, ?_, ?_, (Blk.new w _ _).alloc _, Blk.new' (by simp), ((Below.refl _ w).alloc (Nat.le_refl _) _).alloc (by simp) _⟩
    · have := HT0.out
      cases R with
      | nil => simp at this
      | cons x l => simp at this; subst this; simp
    · have := HT0.out
      cases R with
      | nil => simp at this
      | cons x l => simp at this; subst this; simp
  case round =>
    obtain ⟨k, m, hk1, hk, rfl, hmem, hmin, hZ, hM, hbr⟩ := hrel
    have HMEM := hid hmem
    have HMIN := hid hmin
    have HZ := hid hZ
    have HBR := hid hbr
    have lM := hM.lt
    have lZ := hZ.lt
    obtain ⟨m0, m1, m2, m3, m4, m5, m6, m7, m8, mf⟩ := hM.cells9
    clear hmem hmin hZ hbr
    by_cases hlt : k < n
    · obtain ⟨T, hT⟩ : ∃ T, R[k]? = some T := ⟨R[k]'(by omega), List.getElem?_eq_getElem _⟩
      have r0 := (HBR.out.cell (p := ⟨G, k * 9, none⟩) lG).trans (row_cell HO.out (repF_get R k 0 T hT (by omega)))
      have r1 := (HBR.out.cell (p := ⟨G, k * 9 + 1, none⟩) lG).trans (row_cell HO.out (repF_get R k 1 T hT (by omega)))
      have r2 := (HBR.out.cell (p := ⟨G, k * 9 + 2, none⟩) lG).trans (row_cell HO.out (repF_get R k 2 T hT (by omega)))
      have r3 := (HBR.out.cell (p := ⟨G, k * 9 + 3, none⟩) lG).trans (row_cell HO.out (repF_get R k 3 T hT (by omega)))
      have r4 := (HBR.out.cell (p := ⟨G, k * 9 + 4, none⟩) lG).trans (row_cell HO.out (repF_get R k 4 T hT (by omega)))
      have r5 := (HBR.out.cell (p := ⟨G, k * 9 + 5, none⟩) lG).trans (row_cell HO.out (repF_get R k 5 T hT (by omega)))
      have r6 := (HBR.out.cell (p := ⟨G, k * 9 + 6, none⟩) lG).trans (row_cell HO.out (repF_get R k 6 T hT (by omega)))
      have r7 := (HBR.out.cell (p := ⟨G, k * 9 + 7, none⟩) lG).trans (row_cell HO.out (repF_get R k 7 T hT (by omega)))
      have r8 := (HBR.out.cell (p := ⟨G, k * 9 + 8, none⟩) lG).trans (row_cell HO.out (repF_get R k 8 T hT (by omega)))
      have htk : R.take (k + 1) = R.take k ++ [T] := by
        rw [List.take_succ_eq_append_getElem (by omega)]
        congr 2
        have := List.getElem?_eq_getElem (l := R) (i := k) (by omega)
        rw [hT] at this
        exact (Option.some.inj this).symm
      have HTK := hid htk
      clear hT htk
      have lGr : G < wr.heap.size := Nat.lt_of_lt_of_le lG HBR.out.size
      by_cases hc : T < m
      · have hcm : cmpI T m = -1 := by unfold cmpI; rw [if_pos hc]
        go_wp2
        go_region_held3 (fun w' => w'.cell? ⟨G, k * 9, none⟩ = some (.int .u64 0) ∧ w'.cell? ⟨G, k * 9 + 1, none⟩ = some (.int .u64 0) ∧ w'.cell? ⟨G, k * 9 + 2, none⟩ = some (.pointer none) ∧ w'.cell? ⟨G, k * 9 + 3, none⟩ = some (.int .u16 0) ∧ w'.cell? ⟨G, k * 9 + 4, none⟩ = some (.slice none 0 0) ∧ w'.cell? ⟨G, k * 9 + 5, none⟩ = some (.bool false) ∧ w'.cell? ⟨G, k * 9 + 6, none⟩ = some (.int .u64 (tN T)) ∧ w'.cell? ⟨G, k * 9 + 7, none⟩ = some (.int .i64 (tS T)) ∧ w'.cell? ⟨G, k * 9 + 8, none⟩ = some (.pointer none) ∧ w'.cell? ⟨w.heap.size + 1, 0, none⟩ = some (.int .u64 0) ∧ w'.cell? ⟨w.heap.size + 1, 1, none⟩ = some (.int .u64 0) ∧ w'.cell? ⟨w.heap.size + 1, 2, none⟩ = some (.pointer none) ∧ w'.cell? ⟨w.heap.size + 1, 3, none⟩ = some (.int .u16 0) ∧ w'.cell? ⟨w.heap.size + 1, 4, none⟩ = some (.slice none 0 0) ∧ w'.cell? ⟨w.heap.size + 1, 5, none⟩ = some (.bool false) ∧ w'.cell? ⟨w.heap.size + 1, 6, none⟩ = some (.int .u64 (tN m)) ∧ w'.cell? ⟨w.heap.size + 1, 7, none⟩ = some (.int .i64 (tS m)) ∧ w'.cell? ⟨w.heap.size + 1, 8, none⟩ = some (.pointer none)) (go_keep) (first
          | (go_at_call 20
             refine (next1_any T m _).mono ?_
             rintro e w1 ⟨rfl, hb1⟩
             have HB1 := hid hb1
             have q0 := (hb1.cell (p := ⟨G, k * 9, none⟩) lGr).trans r0
             have q1 := (hb1.cell (p := ⟨G, k * 9 + 1, none⟩) lGr).trans r1
             have q2 := (hb1.cell (p := ⟨G, k * 9 + 2, none⟩) lGr).trans r2
             have q3 := (hb1.cell (p := ⟨G, k * 9 + 3, none⟩) lGr).trans r3
             have q4 := (hb1.cell (p := ⟨G, k * 9 + 4, none⟩) lGr).trans r4
             have q5 := (hb1.cell (p := ⟨G, k * 9 + 5, none⟩) lGr).trans r5
             have q6 := (hb1.cell (p := ⟨G, k * 9 + 6, none⟩) lGr).trans r6
             have q7 := (hb1.cell (p := ⟨G, k * 9 + 7, none⟩) lGr).trans r7
             have q8 := (hb1.cell (p := ⟨G, k * 9 + 8, none⟩) lGr).trans r8
             have p0 := (hb1.cell (p := ⟨w.heap.size + 1, 0, none⟩) lM).trans m0
             have p1 := (hb1.cell (p := ⟨w.heap.size + 1, 1, none⟩) lM).trans m1
             have p2 := (hb1.cell (p := ⟨w.heap.size + 1, 2, none⟩) lM).trans m2
             have p3 := (hb1.cell (p := ⟨w.heap.size + 1, 3, none⟩) lM).trans m3
             have p4 := (hb1.cell (p := ⟨w.heap.size + 1, 4, none⟩) lM).trans m4
             have p5 := (hb1.cell (p := ⟨w.heap.size + 1, 5, none⟩) lM).trans m5
             have p6 := (hb1.cell (p := ⟨w.heap.size + 1, 6, none⟩) lM).trans m6
             have p7 := (hb1.cell (p := ⟨w.heap.size + 1, 7, none⟩) lM).trans m7
             have p8 := (hb1.cell (p := ⟨w.heap.size + 1, 8, none⟩) lM).trans m8
             clear hb1))
        all_goals
          have hM1 := hM.drew.below HB1.out lM
          have HZ1 := hid (HZ.out.drew.below HB1.out lZ)
          have HBR1 := hid (HBR.out.drew.trans (HB1.out.mono (by have := HBR.out.size; simp; omega)))
          have lM1 := hM1.lt
          have lG1 : G < w1.heap.size := Nat.lt_of_lt_of_le lGr HB1.out.size
          have pf := hM1.frozen
          clear HB1 r0 r1 r2 r3 r4 r5 r6 r7 r8 m0 m1 m2 m3 m4 m5 m6 m7 m8 mf
          go_wp2
          go_roundw
          case rel =>
            refine ⟨k + 1, T, by omega, by omega, by go_num, ?_, ?_, ?_, ?_, ?_⟩
            · rw [HTK.out]; simp
            · rw [HTK.out]
              intro r hr
              rcases List.mem_append.1 hr with hr | hr
              · have := HMIN.out r hr; omega
              · simp at hr; omega
            · exact ((((((((HZ1.out.set_other (by simp) _).set_other (by simp) _).set_other (by simp) _).set_other (by simp) _).set_other (by simp) _).set_other (by simp) _).set_other (by simp) _).set_other (by simp) _).set_other (by simp) _
            · exact hM1.sets9 _ _ _ _ _ _ _ _ _
            · exact ((((((((HBR1.out.setCell (by simp) _).setCell (by simp) _).setCell (by simp) _).setCell (by simp) _).setCell (by simp) _).setCell (by simp) _).setCell (by simp) _).setCell (by simp) _).setCell (by simp) _
          case measure => simp [intOf]; omega
      · obtain ⟨z, hcm, hz0⟩ : ∃ z, cmpI T m = z ∧ 0 ≤ z := by
          refine ⟨_, rfl, ?_⟩
          unfold cmpI; rw [if_neg hc]; split <;> omega
        have hz1 : ¬ z < 0 := by omega
        go_wp2
        go_region_held3 (fun w' => w'.cell? ⟨G, k * 9, none⟩ = some (.int .u64 0) ∧ w'.cell? ⟨G, k * 9 + 1, none⟩ = some (.int .u64 0) ∧ w'.cell? ⟨G, k * 9 + 2, none⟩ = some (.pointer none) ∧ w'.cell? ⟨G, k * 9 + 3, none⟩ = some (.int .u16 0) ∧ w'.cell? ⟨G, k * 9 + 4, none⟩ = some (.slice none 0 0) ∧ w'.cell? ⟨G, k * 9 + 5, none⟩ = some (.bool false) ∧ w'.cell? ⟨G, k * 9 + 6, none⟩ = some (.int .u64 (tN T)) ∧ w'.cell? ⟨G, k * 9 + 7, none⟩ = some (.int .i64 (tS T)) ∧ w'.cell? ⟨G, k * 9 + 8, none⟩ = some (.pointer none) ∧ w'.cell? ⟨w.heap.size + 1, 0, none⟩ = some (.int .u64 0) ∧ w'.cell? ⟨w.heap.size + 1, 1, none⟩ = some (.int .u64 0) ∧ w'.cell? ⟨w.heap.size + 1, 2, none⟩ = some (.pointer none) ∧ w'.cell? ⟨w.heap.size + 1, 3, none⟩ = some (.int .u16 0) ∧ w'.cell? ⟨w.heap.size + 1, 4, none⟩ = some (.slice none 0 0) ∧ w'.cell? ⟨w.heap.size + 1, 5, none⟩ = some (.bool false) ∧ w'.cell? ⟨w.heap.size + 1, 6, none⟩ = some (.int .u64 (tN m)) ∧ w'.cell? ⟨w.heap.size + 1, 7, none⟩ = some (.int .i64 (tS m)) ∧ w'.cell? ⟨w.heap.size + 1, 8, none⟩ = some (.pointer none)) (go_keep) (first
          | (go_at_call 20
             refine (next1_any T m _).mono ?_
             rintro e w1 ⟨rfl, hb1⟩
             have HB1 := hid hb1
             have q0 := (hb1.cell (p := ⟨G, k * 9, none⟩) lGr).trans r0
             have q1 := (hb1.cell (p := ⟨G, k * 9 + 1, none⟩) lGr).trans r1
             have q2 := (hb1.cell (p := ⟨G, k * 9 + 2, none⟩) lGr).trans r2
             have q3 := (hb1.cell (p := ⟨G, k * 9 + 3, none⟩) lGr).trans r3
             have q4 := (hb1.cell (p := ⟨G, k * 9 + 4, none⟩) lGr).trans r4
             have q5 := (hb1.cell (p := ⟨G, k * 9 + 5, none⟩) lGr).trans r5
             have q6 := (hb1.cell (p := ⟨G, k * 9 + 6, none⟩) lGr).trans r6
             have q7 := (hb1.cell (p := ⟨G, k * 9 + 7, none⟩) lGr).trans r7
             have q8 := (hb1.cell (p := ⟨G, k * 9 + 8, none⟩) lGr).trans r8
             have p0 := (hb1.cell (p := ⟨w.heap.size + 1, 0, none⟩) lM).trans m0
             have p1 := (hb1.cell (p := ⟨w.heap.size + 1, 1, none⟩) lM).trans m1
             have p2 := (hb1.cell (p := ⟨w.heap.size + 1, 2, none⟩) lM).trans m2
             have p3 := (hb1.cell (p := ⟨w.heap.size + 1, 3, none⟩) lM).trans m3
             have p4 := (hb1.cell (p := ⟨w.heap.size + 1, 4, none⟩) lM).trans m4
             have p5 := (hb1.cell (p := ⟨w.heap.size + 1, 5, none⟩) lM).trans m5
             have p6 := (hb1.cell (p := ⟨w.heap.size + 1, 6, none⟩) lM).trans m6
             have p7 := (hb1.cell (p := ⟨w.heap.size + 1, 7, none⟩) lM).trans m7
             have p8 := (hb1.cell (p := ⟨w.heap.size + 1, 8, none⟩) lM).trans m8
             clear hb1))
        all_goals
          have hM1 := hM.drew.below HB1.out lM
          have HZ1 := hid (HZ.out.drew.below HB1.out lZ)
          have HBR1 := hid (HBR.out.drew.trans (HB1.out.mono (by have := HBR.out.size; simp; omega)))
          have lM1 := hM1.lt
          have lG1 : G < w1.heap.size := Nat.lt_of_lt_of_le lGr HB1.out.size
          have pf := hM1.frozen
          clear HB1 r0 r1 r2 r3 r4 r5 r6 r7 r8 m0 m1 m2 m3 m4 m5 m6 m7 m8 mf
          go_wp2
          go_roundw
          case rel =>
            refine ⟨k + 1, m, by omega, by omega, by go_num, ?_, ?_, HZ1.out, hM1, HBR1.out⟩
            · rw [HTK.out]; exact List.mem_append_left _ HMEM.out
            · rw [HTK.out]
              intro r hr
              rcases List.mem_append.1 hr with hr | hr
              · exact HMIN.out r hr
              · simp at hr; omega
          case measure => simp [intOf]; omega
    · obtain rfl : k = n := by omega
      obtain ⟨z0, z1, z2, z3, z4, z5, z6, z7, z8, zf⟩ := HZ.out.cells9
      go_wp2
      refine bodyPost_ret (v := .agg #[.int .u64 0, .int .u64 0, .pointer none, .int .u16 0, .slice none 0 0, .bool false, .int .u64 (tN m), .int .i64 (tS m), .pointer none]) (by simp [results, Yba.results19, go_sem, z0, z1, z2, z3, z4, z5, z6, z7, z8]) rfl ⟨m, rfl, ?_, ?_, ?_⟩
      · exact List.mem_of_mem_take HMEM.out
      · intro r hr
        refine HMIN.out r ?_
        rw [List.take_of_length_le (by omega)]
        exact hr
      · have := HBR.out
        go_grown
end Go.Proofs.Ybulkawpe
