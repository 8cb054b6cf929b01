import Derived.Test.YbulkawpsFmtJBase
import Derived.Deep.LoopGhost
import Derived.Deep.DeepCutAuto
import Derived.LaidEqlPtr
/- 'Reader.unawait' (func 16). -/
namespace Go.Proofs.YbulkawpsFmt
open Go.RowKit
set_option linter.unusedVariables false
set_option maxRecDepth 100000
/-- the cells of a pending join -/
abbrev pjA (it : It) (t u : ByteArray) (sl rn : Int) : Array Value := #[.string it.text, .int .i64 it.line, .int .u32 it.at_, .int .u32 it.en, .int .u8 it.op, .int .u8 it.st, .string t, .string u, .int .i64 sl, .int .i64 rn]
theorem ptr_same (W : World) (a : Addr) : (binOp .eql 41 (.pointer (some a)) (.pointer (some a))).run Ybaf.prog W = .ok (.bool true) W := by
  have h : (Ybaf.prog.info? 43).isSome = true := by kernel_rfl
  obtain ⟨j, hj⟩ := Option.isSome_iff_exists.1 h
  exact run_eql_ptr_same W a Ybaf.underlying41 hj
theorem app_none (W : World) (b c : Nat) (a : Option Addr) (m : Nat) (ty : TypeId) : (Builtin.append_ #[64, 64] ty #[.slice (some ⟨b, 0, none⟩) 0 c, .slice a 0 m]).run Ybaf.prog W = .ok (.slice (some ⟨b, 0, none⟩) 0 c) W := by
  have h : (Ybaf.prog.info? 41).isSome = true := by kernel_rfl
  obtain ⟨j, hj⟩ := Option.isSome_iff_exists.1 h
  cases a <;> simp [Builtin.append_, run_underlying Ybaf.underlying64, sizeOf, typeInfo, hj, Builtin.lenOf, Builtin.firstCells, loadCells, loadCellsFrom, storeCells]
theorem step_app0 {W : World} {o : Oper} {a : Act} {Q : Exit → Act → World → Prop} {ops : Array Oper} {K : Act → World → Prop} {E : Prop} (hgd : o.guard = none) (s x : Operand) (ho : o.op = .call { callee := .builtin .append, args := #[s, x], argTypes := #[64, 64] }) (b c : Nat) (A : Option Addr) (m : Nat)
    (hs : a.eval s = .slice (some ⟨b, 0, none⟩) 0 c) (k : Nat) (hx : a.eval x = .slice A k m) (hk : k = 0) (h : K (a.put o.dst (.slice (some ⟨b, 0, none⟩) 0 c)) W) : if Region.wanted o (yielded ops a.tmps) = true then Oper.wp Ybaf.prog o a W K Q else E := by
  subst hk
  have hw : Region.wanted o (yielded ops a.tmps) = true := by simp [Region.wanted, hgd]
  rw [if_pos hw]
  unfold Oper.wp execOp
  simp only [ho, resolve, invoke, builtin, Sem.run_bind, Sem.run_pure, Result.andThen_ok, List.map_toArray, List.map_cons, List.map_nil, hs, hx, app_none]
  exact h
theorem unawait_no (r j : Nat) (it : It) (t u : ByteArray) (sl rn : Int) (w : World) (hp : Blk w j (pjA it t u sl rn) 43) (hsl : sl < 0) :
    Calls Ybaf.prog 16 #[.pointer (some ⟨r, 0, none⟩), .pointer (some ⟨j, 0, none⟩)] w fun e w' => e = .returned (.tuple #[]) ∧ Below w.heap.size w w' := by
  obtain ⟨z0, z1, z2, z3, z4, z5, z6, z7, z8, z9, fz⟩ := hp.cells10
  have hge : decide (sl < 0) = true := decide_eq_true hsl
  go_enter Ybaf.func16, Ybaf.ntmps16
  go_wp2
  refine bodyPost_ret (v := .tuple #[]) (by simp [results, Ybaf.results16, go_sem]) rfl ⟨rfl, by go_grown⟩
set_option maxHeartbeats 1000000 in
theorem unawait_yes (base r j mj ma nj na b c : Nat) (x7 x8 tv qv : Value) (L : List It) (Dj : DataW Unit) (it : It) (t u : ByteArray) (sl rn : Int) (w : World) (hR : Rdj w base r mj ma nj na x7 x8 tv qv L Dj (aD u b c)) (hp : Blk w j (pjA it t u sl rn) 43) (hsl : 0 ≤ sl) (hu : u.size ≤ maxLen)
    (ha : w.ownsRow base 41 1 (.slice (some ⟨b, 0, none⟩) 1 c) 1 [.pointer (some ⟨j, 0, none⟩)]) :
    Calls Ybaf.prog 16 #[.pointer (some ⟨r, 0, none⟩), .pointer (some ⟨j, 0, none⟩)] w fun e w' => e = .returned (.tuple #[]) ∧ Rdj w' base r mj ma nj na x7 x8 tv qv L Dj eD ∧ Fr (fun i => i = ma) w w' := by
  obtain ⟨z0, z1, z2, z3, z4, z5, z6, z7, z8, z9, fz⟩ := hp.cells10
  have hge : decide (sl < 0) = false := decide_eq_false (by omega)
  obtain ⟨x0, x1, x2, x3, x4, x5, x6, y7, y8, x9, x10, fx⟩ := hR.blk.cells11
  have hlk := fun m => a_look (W := w.drewN m) (b := ma) (n := na) (D := aD u b c) hR.aw u hu (aD_at u b c)
  have hc0 := row_cell ha (j := 0) rfl
  have HR := hid hR
  have HA := hid ha
  clear hR ha
  go_enter Ybaf.func16, Ybaf.ntmps16
  go_upto_region 1 with fail
  go_quiet (fail)
  have HR1 : Hid (Rdj (w.drewN nq) base r mj ma nj na x7 x8 tv qv L Dj (aD u b c)) := HR.out.below (bdrewN (Below.refl _ w) nq)
  have HP1 : Hid (Blk (w.drewN nq) j (pjA it t u sl rn) 43) := hp.drewN nq
  have HF1 : Hid (Below w.heap.size w (w.drewN nq)) := bdrewN (Below.refl _ w) nq
  have hc1 : (w.drewN nq).cell? ⟨b, 0, none⟩ = some (.pointer (some ⟨j, 0, none⟩)) := hc0
  have hcap : 1 ≤ c := by obtain ⟨_, _, hv, _, _, h, _⟩ := row_blk HA.out (g := b) rfl; simp at hv; omega
  have hcm : c ≤ maxLen := by obtain ⟨_, _, hv, _, _, _, h, _⟩ := row_blk HA.out (g := b) rfl; simp at hv; omega
  clear z0 z1 z2 z3 z4 z5 z6 z7 z8 z9 fz x0 x1 x2 x3 x4 x5 x6 y7 y8 x9 x10 fx hlk hc0 hge
  generalize (w.drewN nq) = w1 at HR1 HP1 HF1 hc1 ⊢
  go_wp2_with fail
  go_loopg [4, 23] 0 (fun gk v4 v23 wr => v4 = .slice (some ⟨b, 0, none⟩) 1 c ∧ v23 = .int .i64 0 ∧ wr = w1)
  case atStart => exact ⟨rfl, rfl, rfl⟩
  case round =>
    obtain ⟨rfl, rfl, rfl⟩ := hrel
    have hpe := ptr_same wr ⟨j, 0, none⟩
    have hw1 : IntKind.i64.wrap 1 = 1 := by decide
    by_cases h1c : c = 1
    · subst h1c
      go_wp2_with fail
      go_region_law (first
        | (refine step_app0 rfl (.tmp 33) (.tmp 37) rfl b 1 (some ⟨b, 0, none⟩) 0 (by go_simp) 0 (by go_simp) rfl ?_))
      have HR2 := hid (HR1.out.below (Below.refl _ wr).drew)
      have HP2 : Hid (Blk wr.drew j (pjA it t u sl rn) 43) := HP1.out
      have HF2 : Hid (Below w.heap.size w wr.drew) := HF1.out.drew
      clear HR1 HP1 HF1 hc1 hpe
      generalize wr.drew = w2 at HR2 HP2 HF2 ⊢
      obtain ⟨z0, z1, z2, z3, z4, z5, z6, z7, z8, z9, fz⟩ := HP2.out.cells10
      obtain ⟨x0, x1, x2, x3, x4, x5, x6, y7, y8, x9, x10, fx⟩ := HR2.out.blk.cells11
      obtain ⟨w3, hdl, hm3, htu⟩ := a_del (W := w2.drew) (b := ma) (n := na) (D := aD u b 1) HR2.out.aw u hu 0
      rw [aD_del] at hm3
      have HM3 := hid hm3
      have HTU := hid htu
      clear hm3 htu
      go_wp2_with fail
      go_region
      go_wp2
      go_end0
      exact ⟨rfl, (HR2.out.below (Below.refl _ w2).drew).turnA HTU.out HM3.out, ((Fr.of_grown HF2.out).mono (fun _ _ h => h.elim)).drew.trans (turn_fr HTU.out) (fun _ _ h => h)⟩
    · have h2c : ¬ (c = 1) := h1c
      go_wp2_with fail
      go_region_law (first
        | (refine step_app0 rfl (.tmp 33) (.tmp 37) rfl b c (some ⟨b, 1, none⟩) (c - 1) (by go_simp) 0 (by go_simp) rfl ?_))
      have HR2 := hid (HR1.out.below (Below.refl _ wr).drew)
      have HP2 : Hid (Blk wr.drew j (pjA it t u sl rn) 43) := HP1.out
      have HF2 : Hid (Below w.heap.size w wr.drew) := HF1.out.drew
      clear HR1 HP1 HF1 hc1 hpe
      generalize wr.drew = w2 at HR2 HP2 HF2 ⊢
      obtain ⟨z0, z1, z2, z3, z4, z5, z6, z7, z8, z9, fz⟩ := HP2.out.cells10
      obtain ⟨x0, x1, x2, x3, x4, x5, x6, y7, y8, x9, x10, fx⟩ := HR2.out.blk.cells11
      obtain ⟨w3, hdl, hm3, htu⟩ := a_del (W := w2.drew) (b := ma) (n := na) (D := aD u b c) HR2.out.aw u hu 0
      rw [aD_del] at hm3
      have HM3 := hid hm3
      have HTU := hid htu
      clear hm3 htu
      go_wp2_with fail
      go_region
      go_wp2
      go_end0
      exact ⟨rfl, (HR2.out.below (Below.refl _ w2).drew).turnA HTU.out HM3.out, ((Fr.of_grown HF2.out).mono (fun _ _ h => h.elim)).drew.trans (turn_fr HTU.out) (fun _ _ h => h)⟩
end Go.Proofs.YbulkawpsFmt
