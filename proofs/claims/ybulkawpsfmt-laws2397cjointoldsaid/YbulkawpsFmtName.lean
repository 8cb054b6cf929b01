import Derived.Test.YbulkawpsFmtLine
/- The names of the operations: 'Op.String' (func 20), 'zzs2397cname' (func 19), 'zzs2397cwant' (func 12). -/
namespace Go.Proofs.YbulkawpsFmt
open Go.RowKit
set_option linter.unusedVariables false
set_option maxRecDepth 100000
def nmL : List ByteArray := [⟨#[]⟩, ⟨#[114]⟩, ⟨#[119]⟩, ⟨#[97, 99, 113]⟩, ⟨#[114, 101, 108]⟩, ⟨#[102, 111, 114, 107]⟩, ⟨#[106, 111, 105, 110]⟩, ⟨#[98, 101, 103, 105, 110]⟩, ⟨#[101, 110, 100]⟩, ⟨#[114, 101, 113]⟩, ⟨#[98, 114, 97, 110, 99, 104]⟩]
/-- the package-level variable event.names holds what the program's text lays -/
def Names (w : World) : Prop := ∀ (i : Nat) (s : ByteArray), nmL[i]? = some s → w.cell? ⟨0, i, none⟩ = some (.string s)
theorem Names.below {w w' : World} (h : Names w) (hb : Below w.heap.size w w') : Names w' := fun i s hi => cell_up hb (h i s hi)
set_option maxHeartbeats 1000000 in
theorem string_any (k : Nat) (s : ByteArray) (h1 : 1 ≤ k) (h2 : k ≤ 8) (hs : nmL[k]? = some s) (w : World) (hN : Names w) :
    Calls Ybaf.prog 20 #[.int .u8 k] w fun e w' => e = .returned (.string s) ∧ Below w.heap.size w w' := by
  have : k = 1 ∨ k = 2 ∨ k = 3 ∨ k = 4 ∨ k = 5 ∨ k = 6 ∨ k = 7 ∨ k = 8 := by omega
  have hc := hN k s hs
  rcases this with rfl | rfl | rfl | rfl | rfl | rfl | rfl | rfl
  all_goals simp [nmL] at hs
  all_goals subst hs
  all_goals go_enter Ybaf.func20, Ybaf.ntmps20
  all_goals go_wp2
  all_goals go_ret
  all_goals exact ⟨rfl, by go_grown⟩
set_option maxHeartbeats 1000000 in
theorem name_any (k : Nat) (s : ByteArray) (h1 : 1 ≤ k) (h2 : k ≤ 8) (hs : nmL[k]? = some s) (w : World) :
    Calls Ybaf.prog 19 #[.int .u8 k] w fun e w' => e = .returned (.string s) ∧ Below w.heap.size w w' := by
  have : k = 1 ∨ k = 2 ∨ k = 3 ∨ k = 4 ∨ k = 5 ∨ k = 6 ∨ k = 7 ∨ k = 8 := by omega
  rcases this with rfl | rfl | rfl | rfl | rfl | rfl | rfl | rfl
  all_goals simp [nmL] at hs
  all_goals subst hs
  all_goals go_enter Ybaf.func19, Ybaf.ntmps19
  all_goals go_wp2
  all_goals go_ret
  all_goals exact ⟨rfl, by go_grown⟩
/-- an event's text -/
def evText (t nm o l : ByteArray) : ByteArray := ⟨(84 :: (t.data.toList ++ 124 :: (nm.data.toList ++ 40 :: (o.data.toList ++ 41 :: 124 :: l.data.toList)))).toArray⟩
def evItem (n : Int) (t nm o l : ByteArray) (k : Nat) : It := ⟨evText t nm o l, n, 4 + nm.size, 4 + nm.size + o.size, k, 0⟩
theorem Blk.sets6 {w : World} {g : Nat} {x0 x1 x2 x3 x4 x5 : Value} {e : TypeId} (h : Blk w g #[x0, x1, x2, x3, x4, x5] e) (v0 v1 v2 v3 v4 v5 : Value) :
    Blk ((((((w.setCell ⟨g, 0, none⟩ v0).setCell ⟨g, 1, none⟩ v1).setCell ⟨g, 2, none⟩ v2).setCell ⟨g, 3, none⟩ v3).setCell ⟨g, 4, none⟩ v4).setCell ⟨g, 5, none⟩ v5) g #[v0, v1, v2, v3, v4, v5] e := by
  have h0 : Blk (w.setCell ⟨g, 0, none⟩ v0) g #[v0, x1, x2, x3, x4, x5] e := h.set 0 v0
  have h1 : Blk ((w.setCell ⟨g, 0, none⟩ v0).setCell ⟨g, 1, none⟩ v1) g #[v0, v1, x2, x3, x4, x5] e := h0.set 1 v1
  have h2 : Blk (((w.setCell ⟨g, 0, none⟩ v0).setCell ⟨g, 1, none⟩ v1).setCell ⟨g, 2, none⟩ v2) g #[v0, v1, v2, x3, x4, x5] e := h1.set 2 v2
  have h3 : Blk ((((w.setCell ⟨g, 0, none⟩ v0).setCell ⟨g, 1, none⟩ v1).setCell ⟨g, 2, none⟩ v2).setCell ⟨g, 3, none⟩ v3) g #[v0, v1, v2, v3, x4, x5] e := h2.set 3 v3
  have h4 : Blk (((((w.setCell ⟨g, 0, none⟩ v0).setCell ⟨g, 1, none⟩ v1).setCell ⟨g, 2, none⟩ v2).setCell ⟨g, 3, none⟩ v3).setCell ⟨g, 4, none⟩ v4) g #[v0, v1, v2, v3, v4, x5] e := h3.set 4 v4
  have h5 : Blk ((((((w.setCell ⟨g, 0, none⟩ v0).setCell ⟨g, 1, none⟩ v1).setCell ⟨g, 2, none⟩ v2).setCell ⟨g, 3, none⟩ v3).setCell ⟨g, 4, none⟩ v4).setCell ⟨g, 5, none⟩ v5) g #[v0, v1, v2, v3, v4, v5] e := h4.set 5 v5
  exact h5
theorem evText_eq (t nm o l : ByteArray) : ⟨#[84]⟩ ++ t ++ ⟨#[124]⟩ ++ nm ++ ⟨#[40]⟩ ++ o ++ ⟨#[41, 124]⟩ ++ l = evText t nm o l := by
  apply ByteArray.ext
  apply Array.toList_inj.1
  simp [evText]
theorem nm_size (k : Nat) (s : ByteArray) (hs : nmL[k]? = some s) : s.size ≤ 6 := by
  have : k < 11 := (List.getElem?_eq_some_iff.1 hs).1
  have : k = 0 ∨ k = 1 ∨ k = 2 ∨ k = 3 ∨ k = 4 ∨ k = 5 ∨ k = 6 ∨ k = 7 ∨ k = 8 ∨ k = 9 ∨ k = 10 := by omega
  rcases this with rfl | rfl | rfl | rfl | rfl | rfl | rfl | rfl | rfl | rfl | rfl <;> (simp [nmL] at hs; subst hs; decide)
set_option maxHeartbeats 1000000 in
theorem want_any (n : Int) (t o l nm : ByteArray) (k : Nat) (w : World) (ht : t.size = 1) (ho : o.size ≤ 2) (hl : l.size ≤ 2) (h1 : 1 ≤ k) (h2 : k ≤ 8) (hs : nmL[k]? = some nm) :
    Calls Ybaf.prog 12 #[.int .i64 n, .string t, .int .u8 k, .string o, .string l] w fun e w' => e = .returned (evItem n t nm o l k).v ∧ Below w.heap.size w w' := by
  have hnm := nm_size k nm hs
  go_enter Ybaf.func12, Ybaf.ntmps12
  go_wp2_with fail
  refine (name_any k nm h1 h2 hs _).mono ?_
  rintro e w1 ⟨rfl, hb1⟩
  have hz := (Blk.new w #[.string ⟨#[]⟩, .int .i64 0, .int .u32 0, .int .u32 0, .int .u8 0, .int .u8 0] 30).below hb1 (by simp)
  have HZ := hid hz
  have HB1 := hid (((Below.refl _ w).alloc (Nat.le_refl _) _).trans (hb1.mono (by simp)))
  obtain ⟨z0, z1, z2, z3, z4, z5, zf⟩ := hz.cells6
  have lz := hz.lt
  clear hz hb1
  go_wp2
  simp only [evText_eq]
  have hF := HZ.out.sets6 (.string (evText t nm o l)) (.int .i64 n) (.int .u32 (3 + nm.size + 1)) (.int .u32 (3 + nm.size + 1 + o.size)) (.int .u8 k) (.int .u8 0)
  have fF := fr_set6 w1 w.heap.size 0 1 2 3 4 5 (.string (evText t nm o l)) (.int .i64 n) (.int .u32 (3 + nm.size + 1)) (.int .u32 (3 + nm.size + 1 + o.size)) (.int .u8 k) (.int .u8 0)
  generalize ((((((w1.setCell ⟨w.heap.size, 0, none⟩ (.string (evText t nm o l))).setCell ⟨w.heap.size, 1, none⟩ (.int .i64 n)).setCell ⟨w.heap.size, 2, none⟩ (.int .u32 (3 + nm.size + 1))).setCell ⟨w.heap.size, 3, none⟩ (.int .u32 (3 + nm.size + 1 + o.size))).setCell ⟨w.heap.size, 4, none⟩ (.int .u8 k)).setCell ⟨w.heap.size, 5, none⟩ (.int .u8 0)) = W7 at fF hF ⊢
  clear z0 z1 z2 z3 z4 z5 zf
  obtain ⟨z0, z1, z2, z3, z4, z5, zf⟩ := hF.cells6
  have e1 : (3 : Int) + nm.size + 1 = 4 + nm.size := by omega
  refine bodyPost_ret (v := (evItem n t nm o l k).v) (by simp [results, Ybaf.results12, go_sem, z0, z1, z2, z3, z4, z5, evItem, It.v, e1]) rfl ⟨rfl, HB1.out.trans (fF.below HB1.out.size (fun k hk => by omega))⟩
end Go.Proofs.YbulkawpsFmt
