import Derived.Test.YbulkawpsFmtUnawait
/- 'Reader.ran' (func 17) where a Join line waits on the thread. -/
namespace Go.Proofs.YbulkawpsFmt
open Go.RowKit
set_option linter.unusedVariables false
set_option maxRecDepth 100000
def itN : It := ⟨⟨#[]⟩, 0, 0, 0, 0, 3⟩
theorem zero_set {w : World} {base q cap : Nat} {i0 : It} (h : ItRow w base q cap [i0]) (i : It) :
    ItRow ((((((w.setCell ⟨q, 0, none⟩ (.string i.text)).setCell ⟨q, 1, none⟩ (.int .i64 i.line)).setCell ⟨q, 2, none⟩ (.int .u32 i.at_)).setCell ⟨q, 3, none⟩ (.int .u32 i.en)).setCell ⟨q, 4, none⟩ (.int .u8 i.op)).setCell ⟨q, 5, none⟩ (.int .u8 i.st)) base q cap [i] := by
  have := h.set (k := 0) i (by simp)
  simpa using this
set_option maxHeartbeats 1000000 in
theorem ran_some (base r j mj ma nj na b c lo : Nat) (x7 x8 tv : Value) (q cap : Nat) (i0 : It) (Dj : DataW Unit) (it : It) (t u : ByteArray) (rn n : Int) (tg un tc : Nat) (w : World)
    (hR : Rdj w base r mj ma nj na x7 x8 tv (.slice (some ⟨q, 0, none⟩) 1 cap) [i0] Dj (aD u b c)) (hp : Blk w j (pjA it t u 0 rn) 43) (hu : u.size ≤ maxLen) (hun : un = u.data.toList.length) (hbj : base ≤ j)
    (hT : BySl w lo (.slice (some ⟨tg, 0, none⟩) un tc) u.data.toList) (ha : w.ownsRow base 41 1 (.slice (some ⟨b, 0, none⟩) 1 c) 1 [.pointer (some ⟨j, 0, none⟩)]) :
    Calls Ybaf.prog 17 #[.pointer (some ⟨r, 0, none⟩), .slice (some ⟨tg, 0, none⟩) un tc, .int .i64 n] w fun e w' => e = .returned (.tuple #[]) ∧ Rdj w' base r mj ma nj na x7 x8 tv (.slice (some ⟨q, 0, none⟩) 1 cap) [itN] Dj eD ∧ Blk w' j (pjA it t u (-1) n) 43 ∧ Fr (SS base (.slice (some ⟨q, 0, none⟩) 1 cap) w) w w' := by
  obtain ⟨x0, x1, x2, x3, x4, x5, x6, y7, y8, x9, x10, fx⟩ := hR.blk.cells11
  have hl := fun ty => hR.aw.len Ybaf.underlying38 ty
  rw [show Maps.size (aD u b c) = 1 from rfl] at hl
  have hlk := fun m => a_look (W := w.drewN m) (b := ma) (n := na) (D := aD u b c) hR.aw u hu (aD_at u b c)
  have HTL := hid hun
  have hcv := fun m => BySl.back (w := w.drewN m) (lo := lo) (s := u) (hT.below (bdrewN (Below.refl _ w) m)) hun
  have HR := hid hR
  have HA := hid ha
  have HP := hid hp
  have HT := hid hT
  clear hR ha hp hT hun
  go_enter Ybaf.func17, Ybaf.ntmps17
  go_upto_region 1 with fail
  go_quiet (fail)
  have HR1 : Hid (Rdj (w.drewN nq) base r mj ma nj na x7 x8 tv (.slice (some ⟨q, 0, none⟩) 1 cap) [i0] Dj (aD u b c)) := HR.out.below (bdrewN (Below.refl _ w) nq)
  have HP1 : Hid (Blk (w.drewN nq) j (pjA it t u 0 rn) 43) := HP.out.drewN nq
  have HF1 : Hid (Below w.heap.size w (w.drewN nq)) := bdrewN (Below.refl _ w) nq
  have HA1 := hid (row_fr HA.out (Fr.of_grown HF1.out) (fun _ _ h => h))
  have HT1 := hid (HT.out.below HF1.out)
  clear x0 x1 x2 x3 x4 x5 x6 y7 y8 x9 x10 fx hlk hl hcv HR HP HA HT
  generalize (w.drewN nq) = w1 at HR1 HP1 HF1 HA1 HT1 ⊢
  obtain ⟨x0, x1, x2, x3, x4, x5, x6, y7, y8, x9, x10, fx⟩ := HR1.out.blk.cells11
  obtain ⟨w2, hdl, hm2, htu⟩ := a_del (W := w1.drew) (b := ma) (n := na) (D := aD u b c) HR1.out.aw u hu 0
  rw [aD_del] at hm2
  have hcv := BySl.back (w := w1.drew) (lo := lo) (s := u) (HT1.out.below (Below.refl _ w1).drew) HTL.out
  have hcv2 := BySl.back (w := w1) (lo := lo) (s := u) HT1.out HTL.out
  have hsn := Lib.run_eql_slice_nil w1 64 41 (some ⟨b, 0, none⟩) 1 c 0 0 Ybaf.underlying64
  have HM2 := hid hm2
  have HTU := hid htu
  clear hm2 htu
  go_wp2_with fail
  go_region
  have HR2 := hid ((HR1.out.below (Below.refl _ w1).drew).turnA HTU.out HM2.out)
  have HP2 := hid (HP1.out.drew.turn HR1.out.aw HTU.out)
  have HA2 : Hid (w2.ownsRow base 41 1 (.slice (some ⟨b, 0, none⟩) 1 c) 1 [.pointer (some ⟨j, 0, none⟩)]) := row_fr (World.ownsRow.drew HA1.out) (turn_fr HTU.out) (fun g hg hS => by
    subst hS
    obtain ⟨_, _, _, _, hb, _⟩ := row_blk HA1.out hg
    exact map_ne HR1.out.aw hb rfl)
  have HF2 : Hid (Fr (SS base (.slice (some ⟨q, 0, none⟩) 1 cap) w) w w2) := SS.trans (SS.of_below HF1.out.drew) ((HR1.out.below (Below.refl _ w1).drew).ssA HTU.out) (fun g hg => Or.inl hg)
  clear x0 x1 x2 x3 x4 x5 x6 y7 y8 x9 x10 fx hdl hcv hcv2 HR1 HP1 HF1 HA1 HT1 HTU HM2
  go_wp2_with fail
  clear hsn
  go_loopg [32] 1 (fun gk v32 wr => (gk = 1 ∧ v32 = .int .i64 0 ∧ wr = w2) ∨ (gk = 0 ∧ v32 = .int .i64 1 ∧ Rdj wr base r mj ma nj na x7 x8 tv (.slice (some ⟨q, 0, none⟩) 1 cap) [itN] Dj eD ∧ Blk wr j (pjA it t u (-1) n) 43 ∧ Fr (SS base (.slice (some ⟨q, 0, none⟩) 1 cap) w) w wr))
  case atStart => exact Or.inl ⟨rfl, rfl, rfl⟩
  case round =>
    rcases hrel with ⟨rfl, rfl, rfl⟩ | ⟨rfl, rfl, h1, h2, h3⟩
    · obtain ⟨x0, x1, x2, x3, x4, x5, x6, y7, y8, x9, x10, fx⟩ := HR2.out.blk.cells11
      obtain ⟨z0, z1, z2, z3, z4, z5, z6, z7, z8, z9, fz⟩ := HP2.out.cells10
      have HQ : Hid (ItRow wr base q cap [i0]) := HR2.out.q
      obtain ⟨p0, p1, p2, p3, p4, p5⟩ := HQ.out.cells (k := 0) (i := i0) rfl
      simp only [Nat.zero_mul, Nat.zero_add] at p0 p1 p2 p3 p4 p5
      have hfz := row_frozen HQ.out
      have hc0 := row_cell HA2.out (j := 0) rfl
      have hw0 : IntKind.i64.wrap 0 = 0 := by decide
      go_wp2_with fail
      go_region
      have hq3 : ItRow (((((((wr.setCell ⟨q, 0, none⟩ (.string ⟨#[]⟩)).setCell ⟨q, 1, none⟩ (.int .i64 0)).setCell ⟨q, 2, none⟩ (.int .u32 0)).setCell ⟨q, 3, none⟩ (.int .u32 0)).setCell ⟨q, 4, none⟩ (.int .u8 0)).setCell ⟨q, 5, none⟩ (.int .u8 3)).drew) base q cap [itN] := (zero_set HQ.out itN).drew
      have hf3 : Fr (fun g => g = q) wr (((((((wr.setCell ⟨q, 0, none⟩ (.string ⟨#[]⟩)).setCell ⟨q, 1, none⟩ (.int .i64 0)).setCell ⟨q, 2, none⟩ (.int .u32 0)).setCell ⟨q, 3, none⟩ (.int .u32 0)).setCell ⟨q, 4, none⟩ (.int .u8 0)).setCell ⟨q, 5, none⟩ (.int .u8 3)).drew) := (fr_set6 wr q _ _ _ _ _ _ _ _ _ _ _ _).drew
      generalize (((((((wr.setCell ⟨q, 0, none⟩ (.string ⟨#[]⟩)).setCell ⟨q, 1, none⟩ (.int .i64 0)).setCell ⟨q, 2, none⟩ (.int .u32 0)).setCell ⟨q, 3, none⟩ (.int .u32 0)).setCell ⟨q, 4, none⟩ (.int .u8 0)).setCell ⟨q, 5, none⟩ (.int .u8 3)).drew) = w3 at hq3 hf3 ⊢
      have HR3 := hid (HR2.out.set (L' := [itN]) rfl rfl hq3 hf3)
      have HF3 := hid (SS.trans HF2.out (HR2.out.ssQ rfl hf3) (fun g hg => Or.inl hg))
      obtain ⟨_, _, _, _, hbq, _⟩ := row_blk HQ.out (g := q) rfl
      have HP3 : Hid (Blk w3 j (pjA it t u 0 rn) 43) := HP2.out.fr hf3 (fun e => HP2.out.ne hbq (by decide) e)
      clear hq3 hf3 hbq HQ x0 x1 x2 x3 x4 x5 x6 y7 y8 x9 x10 fx z0 z1 z2 z3 z4 z5 z6 z7 z8 z9 fz p0 p1 p2 p3 p4 p5 hfz hc0 hw0 HR2 HF2 HP2 HA2
      obtain ⟨z0, z1, z2, z3, z4, z5, z6, z7, z8, z9, fz⟩ := HP3.out.cells10
      go_wp2
      go_roundg 0
      case measure => omega
      case rel =>
        have f4 : Fr (fun g => g = j) w3 ((w3.setCell ⟨j, 8, none⟩ (.int .i64 (-1))).setCell ⟨j, 9, none⟩ (.int .i64 n)) := ((Fr.refl (fun g => g = j) w3).setCell (fun _ => rfl) _).setCell (fun _ => rfl) _
        exact Or.inr ⟨rfl, rfl, HR3.out.pj HP3.out f4, (HP3.out.set 8 (.int .i64 (-1))).set 9 (.int .i64 n), SS.trans HF3.out (ss43 hbj HP3.out f4) (fun g hg => Or.inl hg)⟩
    · go_wp2
      go_end0
      exact ⟨rfl, h1, h2, h3⟩
end Go.Proofs.YbulkawpsFmt
