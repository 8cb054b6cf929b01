import Derived.Test.YbulkawpsFmtItem
import Derived.Deep.DeepCutAuto
/- 'Reader.alone' (func 8) where the line is undecided; the law A-Held (func 3). -/
namespace Go.Proofs.YbulkawpsFmt
open Go.RowKit
set_option linter.unusedVariables false
set_option maxRecDepth 100000
theorem neq30 (w : World) (s : ByteArray) (a b c d e : Int) : (binOp .neq 30 (.agg #[.string s, .int .i64 a, .int .u32 b, .int .u32 c, .int .u8 d, .int .u8 e]) (.agg #[.string s, .int .i64 a, .int .u32 b, .int .u32 c, .int .u8 d, .int .u8 e])).run Ybaf.prog w = .ok (.bool false) w := by
  rw [run_neq_struct, show (10000 : Nat) = 9999 + 1 from rfl, run_equalIn_struct w 9999 30 _ _ (by simp [Program.fieldsOf, Ybaf.underlying30]) (by kernel_rfl)]
  simp only [Program.fieldsOf, Ybaf.underlying30]
  go_simp
theorem ItRow.fr {S : Nat → Prop} {w w' : World} {base g cap : Nat} {L : List It} (h : ItRow w base g cap L) (f : Fr S w w') (hn : ¬ S g) : ItRow w' base g cap L :=
  row_fr h f (fun g' hg' => by simp [Value.ownBlock] at hg'; subst hg'; exact hn)
theorem ItRow.drew {w : World} {base g cap : Nat} {L : List It} (h : ItRow w base g cap L) : ItRow w.drew base g cap L := h.fr (Fr.refl (fun _ => False) w).drew (fun h => h)
theorem ItRow.alloc {w : World} {base g cap : Nat} {L : List It} (h : ItRow w base g cap L) (o : Obj) : ItRow (w.alloc o) base g cap L := h.fr ((Fr.refl (fun _ => False) w).alloc o) (fun h => h)
theorem fr_set6 (w : World) (q : Nat) (o0 o1 o2 o3 o4 o5 : Nat) (v0 v1 v2 v3 v4 v5 : Value) : Fr (fun g => g = q) w ((((((w.setCell ⟨q, o0, none⟩ v0).setCell ⟨q, o1, none⟩ v1).setCell ⟨q, o2, none⟩ v2).setCell ⟨q, o3, none⟩ v3).setCell ⟨q, o4, none⟩ v4).setCell ⟨q, o5, none⟩ v5) := by
  refine Fr.setCell (Fr.setCell (Fr.setCell (Fr.setCell (Fr.setCell (Fr.setCell (Fr.refl _ w) ?_ _) ?_ _) ?_ _) ?_ _) ?_ _) ?_ _ <;> exact fun _ => rfl
set_option maxHeartbeats 1000000 in
theorem alone_held (r j : Nat) (base : Nat) (q cap : Nat) (B : Int) (hd : Int) (L : List It) (k : Nat) (it : It) (s1 s2 : ByteArray) (rn : Int) (t0 t1 t2 t6 t7 t8 t9 t10 : Value) (w : World)
    (hr : Blk w r #[t0, t1, t2, .slice (some ⟨q, 0, none⟩) L.length cap, .int .i64 hd, .int .i64 B, t6, t7, t8, t9, t10] 40)
    (hj : Blk w j #[.string it.text, .int .i64 it.line, .int .u32 it.at_, .int .u32 it.en, .int .u8 it.op, .int .u8 it.st, .string s1, .string s2, .int .i64 (B + k), .int .i64 rn] 43)
    (hrow : ItRow w base q cap L) (hk : k < L.length) (hL : L.length < 1000000) (b0 : 0 ≤ B) (b1 : B ≤ 4294967295) :
    Calls Ybaf.prog 8 #[.pointer (some ⟨r, 0, none⟩), .pointer (some ⟨j, 0, none⟩)] w fun e w' => e = .returned (.tuple #[]) ∧ ItRow w' base q cap (L.set k it) ∧ Fr (fun g => g = q) w w' := by
  obtain ⟨x0, x1, x2, x3, x4, x5, x6, x7, x8, x9, x10, fx⟩ := hr.cells11
  obtain ⟨z0, z1, z2, z3, z4, z5, z6, z7, z8, z9, fz⟩ := hj.cells10
  obtain ⟨y0, y1, y2, y3, y4, y5⟩ := hrow.cells (k := k) (i := L[k]) (List.getElem?_eq_getElem _)
  have hfz := row_frozen hrow
  have hs : IntKind.i64.wrap (B + k - B) = k := by rw [show B + k - B = (k : Int) by omega, IntKind.wrap_i64]; omega
  have HR := hid hrow
  have HL := hid hL
  have HK := hid hk
  have hge : decide ((0 : Int) ≤ B + k) = true := decide_eq_true (by omega)
  clear hr hj hrow
  go_enter Ybaf.func8, Ybaf.ntmps8
  go_wp2
  go_region
  go_wp2
  refine bodyPost_ret (v := .tuple #[]) (by simp [results, Ybaf.results8, go_sem]) rfl ⟨rfl, ?_, ?_⟩
  · exact (HR.out.set it HK.out).drew
  · exact (fr_set6 w q _ _ _ _ _ _ _ _ _ _ _ _).drew
set_option maxHeartbeats 2000000 in
theorem held_any (a : Option Addr) (cap : Nat) (xs : List Int) (base k jline jop : Int) (jt : ByteArray) (hd : Int) (w : World) (hx : ArgI32 w a xs) (hb : 0 ≤ base ∧ base ≤ 4294967295) (hk : 0 ≤ k ∧ k ≤ 65535) (hjl : -2147483648 ≤ jline ∧ jline ≤ 2147483647) (hj : 0 ≤ jop ∧ jop ≤ 255) (hh : 0 ≤ hd ∧ hd ≤ 255) :
    Calls Ybaf.prog 3 #[.slice a xs.length cap, .int .u32 base, .int .u16 k, .int .i32 jline, .int .u8 jop, .string jt, .int .u8 hd] w fun e w' => e = .returned (.bool true) ∧ Below w.heap.size w w' := by
  have HX := hid hx
  have hm : xs.length ≤ maxLen := hx.1
  unfold maxLen at hm
  clear hx
  obtain ⟨b0, b1⟩ := hb
  obtain ⟨k0, k1⟩ := hk
  obtain ⟨l0, l1⟩ := hjl
  obtain ⟨j0, j1⟩ := hj
  obtain ⟨h0, h1⟩ := hh
  generalize hn : xs.length = n at hm
  have HN := hid hn
  clear hn
  go_enter Ybaf.func3, Ybaf.ntmps3
  by_cases hbig : 1024 < n
  · have hd : decide ((1024 : Int) < (n : Int)) = true := decide_eq_true (by omega)
    go_wp2
    go_ret
    exact ⟨rfl, by go_grown⟩
  have hd1 : decide ((1024 : Int) < (n : Int)) = false := decide_eq_false (by omega)
  go_wp2_with fail
  have hbu := build_any a cap xs w HX.out (by have := HN.out; omega)
  rw [HN.out] at hbu
  refine hbu.mono ?_
  clear hbu
  rintro e w1 ⟨q, qc, rfl, rfl, hq1, hb1⟩
  have HX1 : Hid (ArgI32 w1 a xs) := ⟨HX.out.1, HX.out.2.1, fun i x hi => by obtain ⟨p, hp, hc⟩ := HX.out.2.2 i x hi; exact ⟨p, hp, cell_up hb1 hc⟩⟩
  go_wp2_with fail
  have hbu := build_any a cap xs w1 HX1.out (by have := HN.out; omega)
  rw [HN.out] at hbu
  refine hbu.mono ?_
  clear hbu
  rintro e w2 ⟨q2, qc2, rfl, rfl, hq2, hb2⟩
  have HQ := hid (row_fr hq1 (Fr.of_grown hb2) (fun _ _ h => h))
  have HW := hid hq2
  have HB := hid (hb1.trans (hb2.mono hb1.size))
  have hs1 := (row_lt hq1 (g := w.heap.size) rfl)
  have hs2 := (row_lt hq2 (g := w1.heap.size) rfl)
  have qf := row_frozen hq2
  clear hq1 hb1 hq2 hb2 HX1 qf
  obtain ⟨idx, hki, hix⟩ : ∃ i : Nat, k % ((n : Int) + 1) = (i : Int) ∧ i < n + 1 := by
    have h2 : k % ((n : Int) + 1) < n + 1 := Int.emod_lt_of_pos _ (by omega)
    have h3 : 0 ≤ k % ((n : Int) + 1) := Int.emod_nonneg _ (by omega)
    exact ⟨(k % ((n : Int) + 1)).toNat, by omega, by omega⟩
  obtain ⟨hx, hhi, hix2⟩ : ∃ i : Nat, hd % ((n : Int) + 1) = (i : Int) ∧ i < n + 1 := by
    have h2 : hd % ((n : Int) + 1) < n + 1 := Int.emod_lt_of_pos _ (by omega)
    have h3 : 0 ≤ hd % ((n : Int) + 1) := Int.emod_nonneg _ (by omega)
    exact ⟨(hd % ((n : Int) + 1)).toNat, by omega, by omega⟩
  have hll : (xs.map itE ++ [itH]).length = n + 1 := by have := HN.out; simp; omega
  generalize xs.map itE ++ [itH] = L at *
  have HLL := hid hll
  clear hll
  go_upto_if 44 with fail
  go_cut [] (fun wx => ∃ o, Blk wx w2.heap.size #[.string jt, .int .i64 jline, .int .u32 1, .int .u32 2, .int .u8 o, .int .u8 0] 30 ∧ ItRow wx w.heap.size w.heap.size qc L ∧ ItRow wx w1.heap.size w1.heap.size qc2 L ∧ Below w.heap.size w wx)
  case first =>
    have hn0 := Blk.new w2 #[.string jt, .int .i64 jline, .int .u32 1, .int .u32 2, .int .u8 0, .int .u8 0] 30
    have HN0 := hid hn0
    have HB0 := hid (HB.out.alloc HB.out.size (.cells #[.string jt, .int .i64 jline, .int .u32 1, .int .u32 2, .int .u8 0, .int .u8 0] 30))
    clear hn0
    go_wp2_with fail
    all_goals go_meet
    · exact ⟨1, Blk.new w2 _ _, ItRow.alloc HQ.out _, HW.out.alloc _, HB.out.alloc HB.out.size _⟩
    · exact ⟨0, Blk.new w2 _ _, ItRow.alloc HQ.out _, HW.out.alloc _, HB.out.alloc HB.out.size _⟩
  case rest =>
    obtain ⟨o, hj, hq, hw, hb⟩ := hcut
    have hjl := hj.lt
    obtain ⟨c0, c1, c2, c3, c4, c5, cf⟩ := hj.cells6
    have HJ := hid hj
    have HQ1 := hid hq
    have HW1 := hid hw
    have HB1 := hid hb
    clear hj hq hw hb HQ HW HB
    simp only [hki]
    go_wp2_with fail
    have hal := alone_held wc.heap.size (wc.heap.size + 1) w.heap.size w.heap.size qc base hx L idx ⟨jt, jline, 1, 2, o, 0⟩ ⟨#[65]⟩ ⟨#[66]⟩ 7 (.string ⟨#[]⟩) (.pointer none) (.slice none 0 0) .nilIface (.map none) (.map none) (.map none) (.map none)
      ((wc.alloc (.cells #[.string ⟨#[]⟩, .pointer none, .slice none 0 0, .slice (some ⟨w.heap.size, 0, none⟩) (n + 1) qc, .int .i64 hx, .int .i64 base, .nilIface, .map none, .map none, .map none, .map none] 40)).alloc
        (.cells #[.string jt, .int .i64 jline, .int .u32 1, .int .u32 2, .int .u8 o, .int .u8 0, .string ⟨#[65]⟩, .string ⟨#[66]⟩, .int .i64 (base + idx), .int .i64 7] 43))
      (by rw [HLL.out]; exact (Blk.new wc _ _).alloc _) (Blk.new' (by simp)) ((HQ1.out.alloc _).alloc _) (by have := HLL.out; omega) (by have := HLL.out; omega) b0 b1
    refine hal.mono ?_
    clear hal
    rintro e w3 ⟨rfl, hq3, fr3⟩
    have HR3 : Hid (Blk w3 wc.heap.size #[.string ⟨#[]⟩, .pointer none, .slice none 0 0, .slice (some ⟨w.heap.size, 0, none⟩) (n + 1) qc, .int .i64 hx, .int .i64 base, .nilIface, .map none, .map none, .map none, .map none] 40) :=
      ((Blk.new wc _ _).alloc _).fr fr3 (by omega)
    have HJ3 : Hid (Blk w3 w2.heap.size #[.string jt, .int .i64 jline, .int .u32 1, .int .u32 2, .int .u8 o, .int .u8 0] 30) := ((HJ.out.alloc _).alloc _).fr fr3 (by omega)
    have HW3 : Hid (ItRow w3 w1.heap.size w1.heap.size qc2 L) := ((HW1.out.alloc _).alloc _).fr fr3 (by omega)
    have HQ3 := hid hq3
    have HB3 : Hid (Below w.heap.size w w3) := ((HB1.out.alloc HB1.out.size _).alloc (by have := HB1.out.size; simp; omega) _).trans (fr3.below (by have := HB1.out.size; simp; omega) (fun k hk => by omega))
    clear hq3 fr3 HJ HW1 HQ1 HB1 c0 c1 c2 c3 c4 c5 cf
    obtain ⟨x0, x1, x2, x3, x4, x5, x6, x7, x8, x9, x10, fx⟩ := HR3.out.cells11
    obtain ⟨c0, c1, c2, c3, c4, c5, cf⟩ := HJ3.out.cells6
    generalize wc.heap.size = R at *
    generalize w2.heap.size = J at *
    go_wp2
    go_loopg [24] (n + 1) (fun gk v24 wr => ∃ (i : Nat), i ≤ n + 1 ∧ gk = n + 1 - i ∧ v24 = .int .i64 i ∧ Below w3.heap.size w3 wr)
    case atStart => exact ⟨0, Nat.zero_le _, rfl, rfl, Below.refl _ _⟩
    case round =>
      obtain ⟨i, hi, rfl, rfl, hbr⟩ := hrel
      have y0 := cell_up hbr x3
      have d0 := cell_up hbr c0
      have d1 := cell_up hbr c1
      have d2 := cell_up hbr c2
      have d3 := cell_up hbr c3
      have d4 := cell_up hbr c4
      have d5 := cell_up hbr c5
      have HBR := hid hbr
      clear hbr
      by_cases hlt : i < n + 1
      · have hll := HLL.out
        have hrow : ItRow wr w.heap.size w.heap.size qc (L.set idx ⟨jt, jline, 1, 2, o, 0⟩) := HQ3.out.fr (Fr.of_grown HBR.out) (fun h => h)
        have hrow2 : ItRow wr w1.heap.size w1.heap.size qc2 L := HW3.out.fr (Fr.of_grown HBR.out) (fun h => h)
        have hne := neq30
        by_cases he : i = idx
        · subst he
          obtain ⟨r0, r1, r2, r3, r4, r5⟩ := hrow.cells (k := i) (i := ⟨jt, jline, 1, 2, o, 0⟩) (by rw [List.getElem?_set, if_pos rfl, if_pos (by omega)])
          clear hrow hrow2
          go_wp2
          go_region
          go_wp2
          go_roundg (n + 1 - (i + 1))
          case measure => omega
          case rel => exact ⟨i + 1, by omega, rfl, by go_num, HBR.out.drew⟩
        · have hg : (L.set idx ⟨jt, jline, 1, 2, o, 0⟩)[i]? = some (L[i]'(by omega)) := by
            rw [List.getElem?_set, if_neg (fun h => he h.symm)]
            exact List.getElem?_eq_getElem _
          obtain ⟨r0, r1, r2, r3, r4, r5⟩ := hrow.cells hg
          obtain ⟨s0, s1, s2, s3, s4, s5⟩ := hrow2.cells (k := i) (i := L[i]'(by omega)) (List.getElem?_eq_getElem _)
          clear hrow hrow2
          go_wp2
          go_region
          go_wp2
          go_roundg (n + 1 - (i + 1))
          case measure => omega
          case rel => exact ⟨i + 1, by omega, rfl, by go_num, HBR.out.drew⟩
      · go_wp2
        go_ret
        exact ⟨rfl, HB3.out.trans (HBR.out.mono HB3.out.size)⟩
end Go.Proofs.YbulkawpsFmt
