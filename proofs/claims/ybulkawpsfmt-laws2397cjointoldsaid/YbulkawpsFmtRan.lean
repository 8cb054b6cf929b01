import Derived.Test.YbulkawpsFmtPush
import Derived.WalkSpells
import Derived.Deep.RegionHeld3
import Derived.Stop.CallBack
import Derived.Stop.IfaceNil
import GoSem.ClaimData
/- 'Reader.alone' (func 8) where U has run since; the law A-Ran (func 4). -/
namespace Go.Proofs
open Go.Extern.Stop Go.Stop Go.Extern
theorem Ybaf.call14 (args : Array Value) (w : World) : (callFunc 14 args).run Ybaf.prog w = ((FmtStop.sprintf #[9, 94] #[9] args).run Ybaf.prog w).andThen fun v w' => .ok (.value v) w' :=
  run_callFunc_extern Ybaf.func14 (by kernel_rfl) (by kernel_rfl) (by kernel_rfl) (by kernel_rfl) args w
theorem Ybaf.guard (name : String) (w : World) : (FmtStop.guard name).run Ybaf.prog w = .ok () w := by kernel_rfl
theorem Ybaf.fmt0 : FmtStop.printed? ⟨#[84, 37, 115, 32, 114, 117, 110, 115, 32, 97, 102, 116, 101, 114, 32, 84, 37, 115, 32, 106, 111, 105, 110, 101, 100, 32, 105, 116, 32, 97, 116, 32, 108, 105, 110, 101, 32, 37, 100, 44, 32, 119, 104, 101, 114, 101, 32, 116, 104, 101, 32, 74, 111, 105, 110, 40, 37, 115, 44, 37, 115, 41, 32, 104, 97, 115, 32, 110, 111, 32, 115, 101, 99, 111, 110, 100, 32, 108, 105, 110, 101]⟩ 5 = some [(0, 115, false), (1, 115, false), (2, 100, false), (3, 115, false), (4, 115, false)] := by kernel_rfl
theorem Ybaf.fmt0r (w : World) : (FmtDoors.printed ⟨#[84, 37, 115, 32, 114, 117, 110, 115, 32, 97, 102, 116, 101, 114, 32, 84, 37, 115, 32, 106, 111, 105, 110, 101, 100, 32, 105, 116, 32, 97, 116, 32, 108, 105, 110, 101, 32, 37, 100, 44, 32, 119, 104, 101, 114, 101, 32, 116, 104, 101, 32, 74, 111, 105, 110, 40, 37, 115, 44, 37, 115, 41, 32, 104, 97, 115, 32, 110, 111, 32, 115, 101, 99, 111, 110, 100, 32, 108, 105, 110, 101]⟩ 5).run Ybaf.prog w = .ok [(0, 115, false), (1, 115, false), (2, 100, false), (3, 115, false), (4, 115, false)] w := by kernel_rfl
def Ybaf.shape3 : List UInt8 := [5, 3, 0, 0, 0, 0, 0, 0, 0, 105, 110, 116]
theorem Ybaf.op3_100 (name : String) (x : Int) (w : World) : (FmtStop.operand name false 100 false (.iface 3 (.int .i64 x))).run Ybaf.prog w = .ok (Ybaf.shape3, Go.Extern.Stop.digits 8 (x % 2 ^ 64).toNat) w := by kernel_rfl
def Ybaf.shape9 : List UInt8 := [12, 6, 0, 0, 0, 0, 0, 0, 0, 115, 116, 114, 105, 110, 103]
theorem Ybaf.op9_115 (name : String) (x : ByteArray) (w : World) : (FmtStop.operand name false 115 false (.iface 9 (.string x))).run Ybaf.prog w = .ok (Ybaf.shape9, FmtStop.pack x.data.toList) w := by kernel_rfl
end Go.Proofs
namespace Go.Proofs.YbulkawpsFmt
attribute [local go_sem] Ybaf.call14 Ybaf.guard Ybaf.fmt0 Ybaf.fmt0r Ybaf.op3_100 Ybaf.op9_115
open Go.RowKit Go.Extern.Stop Go.Stop Go.Extern
set_option linter.unusedVariables false
set_option maxRecDepth 100000
set_option maxHeartbeats 1000000 in
theorem alone_ran (F : Interp) (r j base : Nat) (qv : Value) (L : List It) (B hd : Int) (jt : ByteArray) (jl ja je jo js : Int) (s1 s2 : ByteArray) (sl rn : Int) (t0 t1 t2 t6 t7 t8 t9 t10 : Value) (w : World) (hF : F.answers w.tape)
    (hr : Blk w r #[t0, t1, t2, qv, .int .i64 hd, .int .i64 B, t6, t7, t8, t9, t10] 40)
    (hj : Blk w j #[.string jt, .int .i64 jl, .int .u32 ja, .int .u32 je, .int .u8 jo, .int .u8 js, .string s1, .string s2, .int .i64 sl, .int .i64 rn] 43)
    (hq : w.ownsRow base 30 6 qv L.length (itF L)) (hn : L.length < 100000) (hb : base ≤ w.heap.size) (hsl : sl < 0) :
    Calls Ybaf.prog 8 #[.pointer (some ⟨r, 0, none⟩), .pointer (some ⟨j, 0, none⟩)] w fun e w' => ∃ g cap t, e = .returned (.tuple #[]) ∧
      Blk w' r #[t0, t1, t2, .slice (some ⟨g, 0, none⟩) (L ++ [({ text := t, line := rn, at_ := 0, en := 0, op := 0, st := 1 } : It)]).length cap, .int .i64 hd, .int .i64 B, t6, t7, t8, t9, t10] 40 ∧ ItRow w' base g cap (L ++ [({ text := t, line := rn, at_ := 0, en := 0, op := 0, st := 1 } : It)]) ∧
      Fr (fun i => i = r ∨ qv.ownBlock = some i) w w' ∧ (qv.ownBlock = some g ∨ w.heap.size ≤ g) := by
  have hF' := answers_open hF
  obtain ⟨x0, x1, x2, x3, x4, x5, x6, x7, x8, x9, x10, fx⟩ := hr.cells11
  obtain ⟨z0, z1, z2, z3, z4, z5, z6, z7, z8, z9, fz⟩ := hj.cells10
  have hge : decide ((0 : Int) ≤ sl) = false := decide_eq_false (by omega)
  have HR := hid hr
  have HJ := hid hj
  have hjl := hj.lt
  have HQ := hid hq
  clear hr hj hq
  go_enter Ybaf.func8, Ybaf.ntmps8
  go_wp2_with fail
  go_region_held3 (fun w' => w'.cell? ⟨j, 7, none⟩ = some (.string s2) ∧ w'.cell? ⟨j, 6, none⟩ = some (.string s1) ∧ w'.cell? ⟨j, 1, none⟩ = some (.int .i64 jl)) (go_keep) (fail)
  generalize FmtStop.textOf _ = T
  have hw1 : Below w.heap.size w ((w.alloc (.cells #[.iface 9 (.string s2), .iface 9 (.string s1), .iface 3 (.int .i64 jl), .iface 9 (.string s1), .iface 9 (.string s2)] 20)).drew.drew) := (((Below.refl _ w).alloc (Nat.le_refl _) _).drew).drew
  generalize (w.alloc (.cells #[.iface 9 (.string s2), .iface 9 (.string s1), .iface 3 (.int .i64 jl), .iface 9 (.string s1), .iface 9 (.string s2)] 20)).drew.drew = w1 at *
  have hr1 := HR.out.below hw1 HR.out.lt
  have hj1 := HJ.out.below hw1 HJ.out.lt
  have hq1 := row_fr HQ.out (Fr.of_grown hw1) (fun _ _ h => h)
  obtain ⟨d0, d1, d2, d3, d4, d5, d6, d7, d8, d9, df⟩ := hj1.cells10
  have HR1 := hid hr1
  have HQ1 := hid hq1
  have HW1 := hid hw1
  clear hr1 hj1 hq1 hw1 x0 x1 x2 x3 x4 x5 x6 x7 x8 x9 x10 fx z0 z1 z2 z3 z4 z5 z6 z7 z8 z9 fz
  go_wp2_with fail
  refine (push_any r base qv L ⟨T, rn, 0, 0, 0, 1⟩ hd B t0 t1 t2 t6 t7 t8 t9 t10 w1 HR1.out HQ1.out hn (Nat.le_trans hb HW1.out.size)).mono ?_
  rintro e w2 ⟨g, cap, rfl, hr2, hq2, fr2, hg2⟩
  go_wp2
  go_end0
  refine ⟨g, cap, T, rfl, hr2, hq2, ((Fr.of_grown HW1.out).mono (fun _ _ h => h.elim)).trans fr2 (fun _ _ h => h), ?_⟩
  rcases hg2 with h | h
  · exact Or.inl h
  · exact Or.inr (Nat.le_trans HW1.out.size h)
set_option maxHeartbeats 2000000 in
theorem ran_any (F : Interp) (a : Option Addr) (cap : Nat) (xs : List Int) (base s ran jline : Int) (jr jd : ByteArray) (w : World) (hF : F.answers w.tape) (hx : ArgI32 w a xs) (hb : -9223372036854775808 ≤ base ∧ base ≤ 9223372036854775807) (hs : 0 ≤ s ∧ s ≤ 4294967295) (hrn : -9223372036854775808 ≤ ran ∧ ran ≤ 9223372036854775807) (hjl : -2147483648 ≤ jline ∧ jline ≤ 2147483647) :
    Calls Ybaf.prog 4 #[.slice a xs.length cap, .int .i64 base, .int .u32 s, .int .i64 ran, .string jr, .string jd, .int .i32 jline] w fun e w' => e = .returned (.bool true) ∧ Below w.heap.size w w' := by
  have HX := hid hx
  have hm : xs.length ≤ maxLen := hx.1
  unfold maxLen at hm
  clear hx
  obtain ⟨b0, b1⟩ := hb
  obtain ⟨s0, s1⟩ := hs
  obtain ⟨l0, l1⟩ := hjl
  obtain ⟨r0, r1⟩ := hrn
  generalize hn : xs.length = n at hm
  have HN := hid hn
  clear hn
  go_enter Ybaf.func4, Ybaf.ntmps4
  by_cases hbig : 1024 < n
  · have hd : decide ((1024 : Int) < (n : Int)) = true := decide_eq_true (by omega)
    go_wp2
    go_ret
    exact ⟨rfl, by go_grown⟩
  have hd1 : decide ((1024 : Int) < (n : Int)) = false := decide_eq_false (by omega)
  go_wp2_with fail
  have hbu := build_any a cap xs w HX.out (by have := HN.out; omega)
  rw [HN.out] at hbu
  refine hbu.mono ?_
  clear hbu
  rintro e w1 ⟨q, qc, rfl, rfl, hq1, hb1⟩
  have HX1 : Hid (ArgI32 w1 a xs) := ⟨HX.out.1, HX.out.2.1, fun i x hi => by obtain ⟨p, hp, hc⟩ := HX.out.2.2 i x hi; exact ⟨p, hp, cell_up hb1 hc⟩⟩
  go_wp2_with fail
  have hbu := build_any a cap xs w1 HX1.out (by have := HN.out; omega)
  rw [HN.out] at hbu
  refine hbu.mono ?_
  clear hbu
  rintro e w2 ⟨q2, qc2, rfl, rfl, hq2, hb2⟩
  have HQ := hid (show ItRow w2 w.heap.size w.heap.size qc (xs.map itE ++ [itH]) from row_fr hq1 (Fr.of_grown hb2) (fun _ _ h => h))
  have HW := hid hq2
  have HB := hid (hb1.trans (hb2.mono hb1.size))
  have hs1 := (row_lt hq1 (g := w.heap.size) rfl)
  have hs2 := (row_lt hq2 (g := w1.heap.size) rfl)
  clear hq1 hb1 hq2 hb2 HX1
  have hll : (xs.map itE ++ [itH]).length = n + 1 := by have := HN.out; simp; omega
  generalize xs.map itE ++ [itH] = L at *
  have HLL := hid hll
  clear hll
  go_wp2_with fail
  have hq4 : w2.ownsRow w.heap.size 30 6 (.slice (some ⟨w.heap.size, 0, none⟩) (n + 1) qc) L.length (itF L) := by
    have := HQ.out
    unfold ItRow at this
    rwa [HLL.out] at this ⊢
  have ht : ((w2.alloc (.cells #[.string ⟨#[]⟩, .pointer none, .slice none 0 0, .slice (some ⟨w.heap.size, 0, none⟩) (n + 1) qc, .int .i64 0, .int .i64 base, .nilIface, .map none, .map none, .map none, .map none] 40)).alloc
        (.cells #[.string ⟨#[120]⟩, .int .i64 jline, .int .u32 0, .int .u32 0, .int .u8 0, .int .u8 0, .string jr, .string jd, .int .i64 (-1 - s % 1000), .int .i64 ran] 43)).tape = w.tape := HB.out.tape
  have hal := alone_ran F w2.heap.size (w2.heap.size + 1) w.heap.size (.slice (some ⟨w.heap.size, 0, none⟩) (n + 1) qc) L base 0 ⟨#[120]⟩ jline 0 0 0 0 jr jd (-1 - s % 1000) ran (.string ⟨#[]⟩) (.pointer none) (.slice none 0 0) .nilIface (.map none) (.map none) (.map none) (.map none)
      ((w2.alloc (.cells #[.string ⟨#[]⟩, .pointer none, .slice none 0 0, .slice (some ⟨w.heap.size, 0, none⟩) (n + 1) qc, .int .i64 0, .int .i64 base, .nilIface, .map none, .map none, .map none, .map none] 40)).alloc
        (.cells #[.string ⟨#[120]⟩, .int .i64 jline, .int .u32 0, .int .u32 0, .int .u8 0, .int .u8 0, .string jr, .string jd, .int .i64 (-1 - s % 1000), .int .i64 ran] 43))
      (by rw [ht]; exact hF) ((Blk.new w2 _ _).alloc _) (Blk.new' (by simp)) ((hq4.alloc _).alloc _) (by have := HLL.out; omega) (by have := HB.out.size; simp; omega) (by omega)
  refine hal.mono ?_
  clear hal ht
  rintro e w3 ⟨g, gc, T, rfl, hr3, hq3, fr3, hg3⟩
  have hl2 : (L ++ [({ text := T, line := ran, at_ := 0, en := 0, op := 0, st := 1 } : It)]).length = n + 2 := by have := HLL.out; simp; omega
  rw [hl2] at hr3
  have HW3 : Hid (ItRow w3 w1.heap.size w1.heap.size qc2 L) := ((HW.out.alloc _).alloc _).fr fr3 (by simp [Value.ownBlock]; omega)
  have HQ3 := hid hq3
  have HR3 := hid hr3
  have HB3 : Hid (Below w.heap.size w w3) := ((HB.out.alloc HB.out.size _).alloc (by have := HB.out.size; simp; omega) _).trans (fr3.below (by have := HB.out.size; simp; omega) (fun k hk => by simp [Value.ownBlock] at hk; have := HB.out.size; omega))
  clear hq3 fr3 hq4 HQ HB HW hg3 hl2
  obtain ⟨x0, x1, x2, x3, x4, x5, x6, x7, x8, x9, x10, fx⟩ := hr3.cells11
  have hrl := hr3.lt
  clear hr3
  generalize w2.heap.size = R at *
  go_wp2
  go_loopg [20] (n + 1) (fun gk v20 wr => ∃ (i : Nat), i ≤ n + 1 ∧ gk = n + 1 - i ∧ v20 = .int .i64 i ∧ Below w3.heap.size w3 wr)
  case atStart => exact ⟨0, Nat.zero_le _, rfl, rfl, Below.refl _ _⟩
  case round =>
    obtain ⟨i, hi, rfl, rfl, hbr⟩ := hrel
    have y0 := cell_up hbr x3
    have HBR := hid hbr
    have hll := HLL.out
    have hrow : ItRow wr w.heap.size g gc (L ++ [({ text := T, line := ran, at_ := 0, en := 0, op := 0, st := 1 } : It)]) := HQ3.out.fr (Fr.of_grown HBR.out) (fun h => h)
    clear hbr
    by_cases hlt : i < n + 1
    · have hrow2 : ItRow wr w1.heap.size w1.heap.size qc2 L := HW3.out.fr (Fr.of_grown HBR.out) (fun h => h)
      have hne := neq30
      have hg : (L ++ [({ text := T, line := ran, at_ := 0, en := 0, op := 0, st := 1 } : It)])[i]? = some (L[i]'(by omega)) := by
        rw [List.getElem?_append_left (by omega)]
        exact List.getElem?_eq_getElem _
      obtain ⟨q0, q1, q2, q3, q4, q5⟩ := hrow.cells hg
      obtain ⟨p0, p1, p2, p3, p4, p5⟩ := hrow2.cells (k := i) (i := L[i]'(by omega)) (List.getElem?_eq_getElem _)
      clear hrow hrow2
      go_wp2
      go_region
      go_wp2
      go_roundg (n + 1 - (i + 1))
      case measure => omega
      case rel => exact ⟨i + 1, by omega, rfl, by go_num, HBR.out.drew⟩
    · have hie : i = n + 1 := by omega
      subst hie
      have hg : (L ++ [({ text := T, line := ran, at_ := 0, en := 0, op := 0, st := 1 } : It)])[n + 1]? = some { text := T, line := ran, at_ := 0, en := 0, op := 0, st := 1 } := by
        rw [List.getElem?_append_right (by omega), hll]; simp
      obtain ⟨q0, q1, q2, q3, q4, q5⟩ := hrow.cells hg
      clear hrow
      go_wp2
      go_ret
      exact ⟨rfl, HB3.out.trans ((HBR.out.alloc HBR.out.size _).mono HB3.out.size)⟩
end Go.Proofs.YbulkawpsFmt
