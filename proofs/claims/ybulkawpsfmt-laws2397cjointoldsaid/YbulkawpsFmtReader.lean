import Derived.Test.YbulkawpsFmtEvent
import Derived.Maps.OwnSet
import Derived.StringKeys
/- 'zzs2397cfresh' (func 9), 'zzs2397csame' (func 13), 'Reader.ran' where nothing is awaited (func 17). -/
namespace Go.Proofs.YbulkawpsFmt
open Go.RowKit
set_option linter.unusedVariables false
set_option maxRecDepth 100000
theorem ran_empty (r ma n : Nat) (nn : Int) (D : DataW Unit) (R : Value → Option (DataW Unit × List MemPlace)) (tv : Value) (t0 t1 t2 t3 t4 t5 t6 t7 t8 t9 : Value) (w : World)
    (hr : Blk w r #[t0, t1, t2, t3, t4, t5, t6, t7, t8, t9, .map (some ma)] 40) (hm : w.ownsMap Ybaf.prog 9 R ma n D) (hz : Maps.size D = 0) :
    Calls Ybaf.prog 17 #[.pointer (some ⟨r, 0, none⟩), tv, .int .i64 nn] w fun e w' => e = .returned (.tuple #[]) ∧ Below w.heap.size w w' := by
  obtain ⟨x0, x1, x2, x3, x4, x5, x6, x7, x8, x9, x10, fx⟩ := hr.cells11
  have hl := fun ty => hm.len Ybaf.underlying38 ty
  rw [hz] at hl
  go_enter Ybaf.func17, Ybaf.ntmps17
  go_wp2
  refine bodyPost_ret (v := .tuple #[]) (by simp [results, Ybaf.results17, go_sem]) rfl ⟨rfl, by go_grown⟩
theorem fresh_any (w : World) :
    Calls Ybaf.prog 9 #[] w fun e w' => e = .returned (.pointer (some ⟨w.heap.size + 4, 0, none⟩)) ∧
      Blk w' (w.heap.size + 4) #[.string ⟨#[]⟩, .pointer none, .slice none 0 0, .slice none 0 0, .int .i64 0, .int .i64 0, .nilIface, .map (some w.heap.size), .map (some (w.heap.size + 1)), .map (some (w.heap.size + 2)), .map (some (w.heap.size + 3))] 40 ∧
      (∀ (k : TypeId) (R : Value → Option (DataW Unit × List MemPlace)), w'.ownsMap Ybaf.prog k R w.heap.size 0 (.map []) ∧ w'.ownsMap Ybaf.prog k R (w.heap.size + 1) 0 (.map []) ∧ w'.ownsMap Ybaf.prog k R (w.heap.size + 2) 0 (.map []) ∧ w'.ownsMap Ybaf.prog k R (w.heap.size + 3) 0 (.map [])) ∧ Below w.heap.size w w' := by
  have h36 : ∀ W, (Instr.makeMap 36 none).run Ybaf.prog W = .ok (.map (some W.heap.size)) (W.alloc (.map #[] 0)) := fun W => rfl
  have h37 : ∀ W, (Instr.makeMap 37 none).run Ybaf.prog W = .ok (.map (some W.heap.size)) (W.alloc (.map #[] 0)) := fun W => rfl
  have h38 : ∀ W, (Instr.makeMap 38 none).run Ybaf.prog W = .ok (.map (some W.heap.size)) (W.alloc (.map #[] 0)) := fun W => rfl
  go_enter Ybaf.func9, Ybaf.ntmps9
  go_wp2
  go_ret
  refine ⟨rfl, Blk.new' (by simp), fun k R => ⟨?_, ?_, ?_, ?_⟩, by go_grown⟩
  · exact ((((World.ownsMap_made w Ybaf.prog k R).alloc _).alloc _).alloc _).alloc _
  · have h := World.ownsMap_made (w.alloc (.map #[] 0)) Ybaf.prog k R
    rw [World.size_alloc] at h
    exact ((h.alloc _).alloc _).alloc _
  · have h := World.ownsMap_made ((w.alloc (.map #[] 0)).alloc (.map #[] 0)) Ybaf.prog k R
    rw [World.size_alloc, World.size_alloc] at h
    exact (h.alloc _).alloc _
  · have h := World.ownsMap_made (((w.alloc (.map #[] 0)).alloc (.map #[] 0)).alloc (.map #[] 0)) Ybaf.prog k R
    rw [World.size_alloc, World.size_alloc, World.size_alloc] at h
    exact h.alloc _
set_option maxHeartbeats 1000000 in
/-- 'zzs2397csame': the queue is what was wanted -/
theorem same_any (r base base' : Nat) (L : List It) (wv : Value) (t0 t1 t2 t6 t7 t8 t9 t10 qv : Value) (w : World) (hr : Blk w r #[t0, t1, t2, qv, .int .i64 0, .int .i64 0, t6, t7, t8, t9, t10] 40)
    (hq : w.ownsRow base 30 6 qv L.length (itF L)) (hw : w.ownsRow base' 30 6 wv L.length (itF L)) (hn : L.length < 100000) :
    Calls Ybaf.prog 13 #[.pointer (some ⟨r, 0, none⟩), wv] w fun e w' => e = .returned (.bool true) ∧ Below w.heap.size w w' := by
  obtain ⟨x0, x1, x2, x3, x4, x5, x6, x7, x8, x9, x10, fx⟩ := hr.cells11
  have form : ∀ {b : Nat} {v : Value}, w.ownsRow b 30 6 v L.length (itF L) → ∃ a c, v = .slice a L.length c := by
    intro b v h
    rcases h.2 with ⟨rfl, h0⟩ | ⟨g, cap, cur, rfl, _⟩
    · exact ⟨none, 0, by rw [h0]⟩
    · exact ⟨_, _, rfl⟩
  obtain ⟨qa, qc, rfl⟩ := form hq
  obtain ⟨wa, wc', rfl⟩ := form hw
  have HQ := hid hq
  have HW := hid hw
  clear hq hw form
  generalize hL : L.length = n at *
  have HL := hid hL
  clear hL
  go_enter Ybaf.func13, Ybaf.ntmps13
  go_wp2
  go_loopg [5] n (fun gk v5 wr => ∃ (i : Nat), i ≤ n ∧ gk = n - i ∧ v5 = .int .i64 i ∧ Below w.heap.size w wr)
  case atStart => exact ⟨0, Nat.zero_le _, rfl, rfl, Below.refl _ _⟩
  case round =>
    obtain ⟨i, hi, rfl, rfl, hbr⟩ := hrel
    have HBR := hid hbr
    have y3 := cell_up hbr x3
    clear hbr
    by_cases hlt : i < n
    · have hll := HL.out
      have hg : L[i]? = some (L[i]'(by omega)) := List.getElem?_eq_getElem _
      obtain ⟨gq, cq, hq, _, _⟩ := HQ.out.form (by omega)
      obtain ⟨gw, cw, hw, _, _⟩ := HW.out.form (by omega)
      simp only [Value.slice.injEq, true_and] at hq hw
      obtain ⟨rfl, rfl⟩ := hq
      obtain ⟨rfl, rfl⟩ := hw
      have i1 : ItRow wr base gq qc L := by unfold ItRow; rw [hll]; exact row_fr HQ.out (Fr.of_grown HBR.out) (fun _ _ h => h)
      have i2 : ItRow wr base' gw wc' L := by unfold ItRow; rw [hll]; exact row_fr HW.out (Fr.of_grown HBR.out) (fun _ _ h => h)
      obtain ⟨q0, q1, q2, q3, q4, q5⟩ := i1.cells hg
      obtain ⟨p0, p1, p2, p3, p4, p5⟩ := i2.cells hg
      have hne := neq30
      clear i1 i2 hg
      go_wp2
      go_region
      go_wp2
      go_roundg (n - (i + 1))
      case measure => omega
      case rel => exact ⟨i + 1, by omega, rfl, by go_num, HBR.out.drew⟩
    · go_wp2
      go_ret
      exact ⟨rfl, HBR.out⟩
end Go.Proofs.YbulkawpsFmt
