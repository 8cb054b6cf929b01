import Derived.Test.YbulkawpsFmtRows
import Derived.Test.YbulkawpsFmtBase
import Derived.Handy
import Derived.Deep.LoopGhost
/- Items of the queue, as plain data; rows of them; 'zzs2397abuild' (func 7). -/
namespace Go.Proofs.YbulkawpsFmt
open Go.RowKit
set_option linter.unusedVariables false
set_option maxRecDepth 100000
theorem hid {p : Prop} (h : p) : Hid p := h
theorem info30 : (Ybaf.prog.info? 30).map (fun i => (i.zero, i.size, i.bytes)) = some (some (.agg #[.string ByteArray.empty, .int .i64 0, .int .u32 0, .int .u32 0, .int .u8 0, .int .u8 0]), 6, 40) := by kernel_rfl
structure It where
  text : ByteArray
  line : Int
  at_ : Int
  en : Int
  op : Int
  st : Int
def It.c (i : It) : List Value := [.string i.text, .int .i64 i.line, .int .u32 i.at_, .int .u32 i.en, .int .u8 i.op, .int .u8 i.st]
def It.v (i : It) : Value := .agg #[.string i.text, .int .i64 i.line, .int .u32 i.at_, .int .u32 i.en, .int .u8 i.op, .int .u8 i.st]
def itZ : It := ⟨ByteArray.empty, 0, 0, 0, 0, 0⟩
def itH : It := ⟨ByteArray.empty, 0, 0, 0, 0, 2⟩
def itE (x : Int) : It := ⟨⟨#[101]⟩, x, 0, 0, 0, 0⟩
def itF : List It → List Value
  | [] => []
  | i :: l => i.c ++ itF l
theorem itF_len (L : List It) : (itF L).length = L.length * 6 := by
  induction L with
  | nil => rfl
  | cons i l ih => simp [itF, It.c, ih]; omega
theorem itF_app (L M : List It) : itF (L ++ M) = itF L ++ itF M := by
  induction L with
  | nil => rfl
  | cons T l ih => rw [List.cons_append, itF, itF, ih, List.append_assoc]
theorem itF_get (L : List It) (k j : Nat) (i : It) (h : L[k]? = some i) (hj : j < 6) : (itF L)[k * 6 + j]? = i.c[j]? := by
  induction L generalizing k with
  | nil => simp at h
  | cons U l ih =>
    cases k with
    | zero =>
      simp at h; subst h
      rw [itF, List.getElem?_append_left (by simp [It.c]; omega)]; simp
    | succ k =>
      rw [List.getElem?_cons_succ] at h
      rw [itF, List.getElem?_append_right (by simp [It.c]; omega), ← ih k h]
      congr 1
      simp [It.c]; omega
theorem itF_set (L : List It) (k : Nat) (i : It) (h : k < L.length) :
    ((((((itF L).set (k * 6) (.string i.text)).set (k * 6 + 1) (.int .i64 i.line)).set (k * 6 + 2) (.int .u32 i.at_)).set (k * 6 + 3) (.int .u32 i.en)).set (k * 6 + 4) (.int .u8 i.op)).set (k * 6 + 5) (.int .u8 i.st) = itF (L.set k i) := by
  induction L generalizing k with
  | nil => simp at h
  | cons U l ih =>
    cases k with
    | zero => simp [itF, It.c]
    | succ k =>
      have := ih k (by simpa using h)
      rw [List.set_cons_succ, itF, itF, ← this]
      simp only [show (k + 1) * 6 = k * 6 + 6 by omega]
      simp [It.c]
theorem itF_replicate (n : Nat) : itF (List.replicate n itZ) = (madeCells (Value.agg #[.string ByteArray.empty, .int .i64 0, .int .u32 0, .int .u32 0, .int .u8 0, .int .u8 0]).cells (n * 6)).toList := by
  apply List.ext_getElem?
  intro j
  by_cases hj : j < n * 6
  · have hk : (List.replicate n itZ)[j / 6]? = some itZ := by rw [List.getElem?_replicate, if_pos (by omega)]
    have h := itF_get _ (j / 6) (j % 6) itZ hk (Nat.mod_lt _ (by decide))
    rw [show j / 6 * 6 + j % 6 = j by omega] at h
    rw [h, Array.getElem?_toList]
    have h6 : j % 6 < 6 := Nat.mod_lt _ (by decide)
    have : j % 6 = 0 ∨ j % 6 = 1 ∨ j % 6 = 2 ∨ j % 6 = 3 ∨ j % 6 = 4 ∨ j % 6 = 5 := by omega
    simp only [madeCells, Value.cells]
    rcases this with e | e | e | e | e | e <;> simp [It.c, itZ, hj, e]
  · rw [List.getElem?_eq_none (by rw [itF_len]; simp; omega), List.getElem?_eq_none (by simp [size_madeCells]; omega)]
/-- the row of items that a slice value owns -/
def ItRow (w : World) (base : Nat) (g cap : Nat) (L : List It) : Prop := w.ownsRow base 30 6 (.slice (some ⟨g, 0, none⟩) L.length cap) L.length (itF L)
theorem ItRow.cells {w : World} {base g cap : Nat} {L : List It} (h : ItRow w base g cap L) {k : Nat} {i : It} (hk : L[k]? = some i) :
    w.cell? ⟨g, k * 6, none⟩ = some (.string i.text) ∧ w.cell? ⟨g, k * 6 + 1, none⟩ = some (.int .i64 i.line) ∧ w.cell? ⟨g, k * 6 + 2, none⟩ = some (.int .u32 i.at_) ∧ w.cell? ⟨g, k * 6 + 3, none⟩ = some (.int .u32 i.en) ∧ w.cell? ⟨g, k * 6 + 4, none⟩ = some (.int .u8 i.op) ∧ w.cell? ⟨g, k * 6 + 5, none⟩ = some (.int .u8 i.st) := by
  have key := fun j hj => itF_get L k j i hk hj
  exact ⟨row_cell h (by simpa [It.c] using key 0 (by omega)), row_cell h (by simpa [It.c] using key 1 (by omega)), row_cell h (by simpa [It.c] using key 2 (by omega)), row_cell h (by simpa [It.c] using key 3 (by omega)), row_cell h (by simpa [It.c] using key 4 (by omega)), row_cell h (by simpa [It.c] using key 5 (by omega))⟩
theorem ItRow.set {w : World} {base g cap : Nat} {L : List It} (h : ItRow w base g cap L) {k : Nat} (i : It) (hk : k < L.length) :
    ItRow ((((((w.setCell ⟨g, k * 6, none⟩ (.string i.text)).setCell ⟨g, k * 6 + 1, none⟩ (.int .i64 i.line)).setCell ⟨g, k * 6 + 2, none⟩ (.int .u32 i.at_)).setCell ⟨g, k * 6 + 3, none⟩ (.int .u32 i.en)).setCell ⟨g, k * 6 + 4, none⟩ (.int .u8 i.op)).setCell ⟨g, k * 6 + 5, none⟩ (.int .u8 i.st)) base g cap (L.set k i) := by
  unfold ItRow at h ⊢
  rw [List.length_set, ← itF_set L k i hk]
  exact row_set (row_set (row_set (row_set (row_set (row_set h _ _) _ _) _ _) _ _) _ _) _ _
/-- an argument's slice of int32 -/
def ArgI32 (w : World) (a : Option Addr) (xs : List Int) : Prop := xs.length ≤ maxLen ∧ (∀ x ∈ xs, -2147483648 ≤ x ∧ x ≤ 2147483647) ∧ ∀ (i : Nat) (x : Int), xs[i]? = some x → ∃ p, a = some p ∧ w.cell? (p.add i) = some (.int .i32 x)
set_option maxHeartbeats 1000000 in
theorem build_any (a : Option Addr) (cap : Nat) (xs : List Int) (w : World) (hx : ArgI32 w a xs) (hn : xs.length ≤ 1024) :
    Calls Ybaf.prog 7 #[.slice a xs.length cap] w fun e w' => ∃ g c, e = .returned (.slice (some ⟨g, 0, none⟩) (xs.length + 1) c) ∧ g = w.heap.size ∧ ItRow w' w.heap.size g c (xs.map itE ++ [itH]) ∧ Below w.heap.size w w' := by
  have HX := hid hx
  clear hx
  generalize hm : xs.length = n at hn
  have HM := hid hm
  clear hm
  go_enter Ybaf.func7, Ybaf.ntmps7
  go_wp2_with (first | (at_make; refine wpList_mk rfl (.tmp 7) (.tmp 7) 25 rfl 30 _ 6 40 Ybaf.underlying25 info30 w.heap.size (n + 1) .i64 .i64 ?h1 ?h2 ?hn (by decide) ?hbase _ rfl ?_) | go_in)
  case h1 => simp only [Act.eval]; go_simp
  case h2 => simp only [Act.eval]; go_simp
  case hn => omega
  case hbase => exact Nat.le_refl _
  intro w1 own1 fr1
  have HR1 : Hid (ItRow w1 w.heap.size w.heap.size (n + 1) (List.replicate (n + 1) itZ)) := by
    unfold ItRow
    rw [itF_replicate, List.length_replicate]
    exact own1
  have HB1 := hid (show Below w.heap.size w w1 from fr1.to_grown)
  clear own1 fr1
  go_wp2
  go_loopg [4] n (fun gk v4 wr => ∃ (k : Nat) (L : List It), k ≤ n ∧ gk = n - k ∧ v4 = .int .i64 k ∧ L.length = n + 1 ∧ ItRow wr w.heap.size w.heap.size (n + 1) L ∧ (∀ i, i < k → L[i]? = (xs[i]?).map itE) ∧ Below w.heap.size w wr)
  case atStart => exact ⟨0, _, Nat.zero_le _, rfl, rfl, by simp, HR1.out, by simp, HB1.out⟩
  case round =>
    obtain ⟨k, L, hk, rfl, rfl, hl, hrow, hall, hb⟩ := hrel
    have HL := hid hl
    have HR := hid hrow
    have HA := hid hall
    have HB := hid hb
    clear hl hrow hall hb HR1 HB1
    by_cases hlt : k < n
    · obtain ⟨x, hx⟩ : ∃ x, xs[k]? = some x := ⟨xs[k]'(by have := HM.out; omega), List.getElem?_eq_getElem _⟩
      obtain ⟨p, hp, hc⟩ := HX.out.2.2 k x hx
      subst hp
      have hxb := HX.out.2.1 x (List.mem_of_getElem? hx)
      have x0 := hxb.1
      have x1 := hxb.2
      have hc2 : wr.cell? (p.add k) = some (.int .i32 x) := cell_up HB.out hc
      have hci := HR.out.cells (k := k) (i := L[k]'(by have := HL.out; omega)) (List.getElem?_eq_getElem _)
      obtain ⟨y0, y1, y2, y3, y4, y5⟩ := hci
      have hfz := row_frozen HR.out
      have hxx := hid hx
      clear hx hxb hc
      go_wp2
      go_roundg (n - (k + 1))
      case measure => omega
      case rel =>
        have hr := HR.out.set (k := k) (itE x) (by have := HL.out; omega)
        refine ⟨k + 1, L.set k (itE x), by omega, rfl, by go_num, by simpa using HL.out, hr, ?_, ?_⟩
        · intro i hi
          rw [List.getElem?_set]
          by_cases he : k = i
          · subst he
            rw [if_pos rfl, if_pos (by have := HL.out; omega), hxx.out]
            rfl
          · rw [if_neg he]
            exact HA.out i (by omega)
        · exact (((((HB.out.setCell (Nat.le_refl _) _).setCell (Nat.le_refl _) _).setCell (Nat.le_refl _) _).setCell (Nat.le_refl _) _).setCell (Nat.le_refl _) _).setCell (Nat.le_refl _) _
    · have hke : n = k := by omega
      subst hke
      have hci := HR.out.cells (k := n) (i := L[n]'(by have := HL.out; omega)) (List.getElem?_eq_getElem _)
      obtain ⟨y0, y1, y2, y3, y4, y5⟩ := hci
      have hfz := row_frozen HR.out
      go_wp2
      go_ret
      have hr := HR.out.set (k := n) itH (by have := HL.out; omega)
      have hL : L.set n itH = xs.map itE ++ [itH] := by
        apply List.ext_getElem?
        intro i
        rw [List.getElem?_set]
        by_cases he : n = i
        · subst he
          have hm := HM.out
          rw [if_pos rfl, if_pos (by have := HL.out; omega), List.getElem?_append_right (by simp; omega)]
          simp [hm]
        · rw [if_neg he]
          by_cases hi : i < n
          · rw [HA.out i hi, List.getElem?_append_left (by have := HM.out; simp; omega), List.getElem?_map]
          · rw [List.getElem?_eq_none (by have := HL.out; omega), List.getElem?_eq_none (by have := HM.out; simp; omega)]
      rw [hL] at hr
      refine ⟨_, _, rfl, rfl, hr, ?_⟩
      exact (((((HB.out.setCell (Nat.le_refl _) _).setCell (Nat.le_refl _) _).setCell (Nat.le_refl _) _).setCell (Nat.le_refl _) _).setCell (Nat.le_refl _) _).setCell (Nat.le_refl _) _
end Go.Proofs.YbulkawpsFmt
