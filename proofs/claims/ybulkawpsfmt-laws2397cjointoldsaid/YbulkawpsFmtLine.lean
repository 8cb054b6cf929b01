import Derived.Test.YbulkawpsFmtRan
import Derived.Laws.IdiomStrings
/- Slices of bytes; 'zzs2397cline' (func 11). -/
namespace Go.Proofs.YbulkawpsFmt
open Go.RowKit
set_option linter.unusedVariables false
set_option maxRecDepth 100000
theorem push_modify (a : Array Obj) (x : Obj) (f : Obj → Obj) : (a.push x).modify a.size f = a.push (f x) := by
  apply Array.ext
  · simp
  · intro i h1 h2
    simp only [Array.getElem_modify, Array.getElem_push]
    by_cases h : a.size = i
    · subst h; simp
    · have hi : i < a.size := by simp at h1; omega
      simp [h, hi]
theorem conv33 (W : World) (g : Nat) (hg : W.heap.size = g) : (convert 33 33 (.slice (some ⟨g, 0, none⟩) 1 1)).run Ybaf.prog (W.alloc (.cells #[.int .u8 75] 5)) = .ok (.slice (some ⟨g, 0, none⟩) 1 1) (W.alloc (.cells #[.int .u8 75] 5 (1, 2))) := by
  subst hg
  have hh : (W.alloc (.cells #[.int .u8 75] 5)).heap[W.heap.size]? = some (.cells #[.int .u8 75] 5) := heap_alloc_new W _
  have hsh : (W.alloc (.cells #[.int .u8 75] 5)).shape? W.heap.size = some (5, 1) := by
    unfold World.shape?
    rw [hh]
    rfl
  have hfr : (W.alloc (.cells #[.int .u8 75] 5)).freeze ⟨W.heap.size, 1, none⟩ 1 = W.alloc (.cells #[.int .u8 75] 5 (1, 2)) := by
    unfold World.freeze
    rw [if_neg (by decide)]
    show ({ W.alloc (.cells #[.int .u8 75] 5) with heap := (W.heap.push (.cells #[.int .u8 75] 5)).modify W.heap.size _ } : World) = _
    rw [push_modify]
    rfl
  simp [convert, run_underlying Ybaf.underlying33, run_underlying Ybaf.underlying5, markStringish, hsh, hfr]
theorem conv9 (W : World) (s : ByteArray) : (convert 9 33 (.string s)).run Ybaf.prog W = .ok (.slice (some ⟨W.heap.size, 0, none⟩) s.size (grownCap W s.size 0 5))
      (W.drew.alloc (.cells (bytesRow s (grownCap W s.size 0 5)) 5 ((bytesRow s (grownCap W s.size 0 5)).size, (bytesRow s (grownCap W s.size 0 5)).size + 1))) :=
  run_bytes_of_string W 9 33 5 s Ybaf.underlying9 Ybaf.underlying33 Ybaf.underlying5
/-- a slice of bytes made by a conversion from a string (its block bears the mark of such a row), in no block below lo, and what it holds -/
def BySl (w : World) (lo : Nat) (v : Value) (l : List UInt8) : Prop := (v = .slice none 0 0 ∧ l = []) ∨ ∃ (g cap m : Nat) (c : Array Value), v = .slice (some ⟨g, 0, none⟩) l.length cap ∧ lo ≤ g ∧ w.heap[g]? = some (.cells c 5 (m, m + 1)) ∧ ∀ (j : Nat) (b : UInt8), l[j]? = some b → c[j]? = some (.int .u8 (b.toNat : Int))
theorem BySl.fr {S : Nat → Prop} {w w' : World} {lo : Nat} {v : Value} {l : List UInt8} (h : BySl w lo v l) (f : Fr S w w') (hS : ∀ g, v.ownBlock = some g → ¬ S g) : BySl w' lo v l := by
  rcases h with h | ⟨g, cap, m, c, hv, hl, hg, hc⟩
  · exact Or.inl h
  · exact Or.inr ⟨g, cap, m, c, hv, hl, (f.block g (Array.getElem?_eq_some_iff.1 hg).1 (hS g (by rw [hv]; rfl))).trans hg, hc⟩
theorem BySl.below {w w' : World} {lo : Nat} {v : Value} {l : List UInt8} (h : BySl w lo v l) (hb : Below w.heap.size w w') : BySl w' lo v l := h.fr (Fr.of_grown hb) (fun _ _ h => h)
theorem BySl.lt {w : World} {lo g n c : Nat} {l : List UInt8} (h : BySl w lo (.slice (some ⟨g, 0, none⟩) n c) l) : lo ≤ g ∧ g < w.heap.size := by
  rcases h with ⟨h, _⟩ | ⟨g', cap, m, c, hv, hl, hg, hc⟩
  · cases h
  · cases hv; exact ⟨hl, (Array.getElem?_eq_some_iff.1 hg).1⟩
theorem BySl.low {w : World} {lo g : Nat} {v : Value} {l : List UInt8} (h : BySl w lo v l) (hv : v.ownBlock = some g) : lo ≤ g := by
  rcases h with ⟨h, _⟩ | ⟨g', cap, m, c, h1, hl, _⟩
  · rw [h] at hv; simp [Value.ownBlock] at hv
  · rw [h1] at hv; simp [Value.ownBlock] at hv; omega
/-- such a row is no block that an append of the call's own makes -/
theorem BySl.own {w : World} {lo g : Nat} {v : Value} {l : List UInt8} (h : BySl w lo v l) (hv : v.ownBlock = some g) {c : Array Value} {e : TypeId} : ¬ Blk w g c e := by
  rcases h with ⟨h, _⟩ | ⟨g', cap, m, c', h1, hl, hg, _⟩
  · rw [h] at hv; simp [Value.ownBlock] at hv
  · rw [h1] at hv; simp [Value.ownBlock] at hv
    subst hv
    intro hb
    unfold Blk at hb
    rw [hg] at hb
    simp at hb
theorem BySl.cell {w : World} {lo g n cap : Nat} {l : List UInt8} (h : BySl w lo (.slice (some ⟨g, 0, none⟩) n cap) l) {j : Nat} {b : UInt8} (hj : l[j]? = some b) : w.cell? ⟨g, j, none⟩ = some (.int .u8 (b.toNat : Int)) := by
  rcases h with ⟨h, _⟩ | ⟨g', cap, m, c, hv, hl, hg, hc⟩
  · cases h
  · cases hv
    unfold World.cell?
    simp only [hg]
    exact hc j b hj
theorem BySl.alloc {w : World} {lo : Nat} {v : Value} {l : List UInt8} (h : BySl w lo v l) (o : Obj) : BySl (w.alloc o) lo v l := h.below ((Below.refl _ w).alloc (Nat.le_refl _) o)
theorem BySl.mono {w : World} {lo lo' : Nat} {v : Value} {l : List UInt8} (h : BySl w lo v l) (hl : lo' ≤ lo) : BySl w lo' v l := by
  rcases h with h | ⟨g, cap, m, c, hv, h1, h2⟩
  · exact Or.inl h
  · exact Or.inr ⟨g, cap, m, c, hv, by omega, h2⟩
theorem bytes_get (s : ByteArray) (c j : Nat) (b : UInt8) (h : s.data.toList[j]? = some b) : (bytesRow s c)[j]? = some (.int .u8 (b.toNat : Int)) := by
  obtain ⟨hj, hb⟩ := List.getElem?_eq_some_iff.1 h
  have hj' : j < s.data.size := by simpa using hj
  rw [bytesRow_at s c j hj', ← hb]
  simp
theorem BySl.new (w : World) (s : ByteArray) (c m : Nat) : BySl (w.alloc (.cells (bytesRow s c) 5 (m, m + 1))) w.heap.size (.slice (some ⟨w.heap.size, 0, none⟩) s.size c) s.data.toList :=
  Or.inr ⟨w.heap.size, c, m, bytesRow s c, by simp, Nat.le_refl _, heap_alloc_new w _, fun j b hj => bytes_get s c j b hj⟩
/-- '[]byte(s)' -/
theorem wpList_bytes {W : World} {o : Oper} {a : Act} {Q : Exit → Act → World → Prop} {ops : Array Oper} {rest : List Oper} (hgd : o.guard = none) (x : Operand) (ho : o.op = Op.convert 9 33 x) (s : ByteArray) (hx : a.eval x = .string s)
    (h : ∀ g cap w', BySl w' W.heap.size (.slice (some ⟨g, 0, none⟩) s.size cap) s.data.toList → Below W.heap.size W w' → wpList Ybaf.prog ops Q rest (a.put o.dst (.slice (some ⟨g, 0, none⟩) s.size cap)) w') : wpList Ybaf.prog ops Q (o :: rest) a W := by
  refine wpList_plain hgd fun K hK => ?_
  unfold Oper.wp execOp
  simp only [ho, hx, conv9, Sem.run_bind, Result.andThen_ok, Sem.run_pure]
  refine hK _ _ (h _ _ _ (BySl.new W.drew s _ _) ((Below.refl _ W).drew.alloc (Nat.le_refl _) _))
theorem fr_set7 (w : World) (q : Nat) (o0 o1 o2 o3 o4 o5 o6 : Nat) (v0 v1 v2 v3 v4 v5 v6 : Value) : Fr (fun g => g = q) w (((((((w.setCell ⟨q, o0, none⟩ v0).setCell ⟨q, o1, none⟩ v1).setCell ⟨q, o2, none⟩ v2).setCell ⟨q, o3, none⟩ v3).setCell ⟨q, o4, none⟩ v4).setCell ⟨q, o5, none⟩ v5).setCell ⟨q, o6, none⟩ v6) := by
  refine Fr.setCell (Fr.setCell (Fr.setCell (Fr.setCell (Fr.setCell (Fr.setCell (Fr.setCell (Fr.refl _ w) ?_ _) ?_ _) ?_ _) ?_ _) ?_ _) ?_ _) ?_ _ <;> exact fun _ => rfl
/-- an event line's operand, its location, by its shape -/
def opOf (sh : Int) (l : List UInt8) : List UInt8 := if sh = 6 then [] else l
def locOf (sh : Int) (l : List UInt8) : List UInt8 := if sh = 0 then l else []
theorem Blk.sets7 {w : World} {g : Nat} {x0 x1 x2 x3 x4 x5 x6 : Value} {e : TypeId} (h : Blk w g #[x0, x1, x2, x3, x4, x5, x6] e) (v0 v1 v2 v3 v4 v5 v6 : Value) :
    Blk (((((((w.setCell ⟨g, 0, none⟩ v0).setCell ⟨g, 1, none⟩ v1).setCell ⟨g, 2, none⟩ v2).setCell ⟨g, 3, none⟩ v3).setCell ⟨g, 4, none⟩ v4).setCell ⟨g, 5, none⟩ v5).setCell ⟨g, 6, none⟩ v6) g #[v0, v1, v2, v3, v4, v5, v6] e := by
  have h0 : Blk (w.setCell ⟨g, 0, none⟩ v0) g #[v0, x1, x2, x3, x4, x5, x6] e := h.set 0 v0
  have h1 : Blk ((w.setCell ⟨g, 0, none⟩ v0).setCell ⟨g, 1, none⟩ v1) g #[v0, v1, x2, x3, x4, x5, x6] e := h0.set 1 v1
  have h2 : Blk (((w.setCell ⟨g, 0, none⟩ v0).setCell ⟨g, 1, none⟩ v1).setCell ⟨g, 2, none⟩ v2) g #[v0, v1, v2, x3, x4, x5, x6] e := h1.set 2 v2
  have h3 : Blk ((((w.setCell ⟨g, 0, none⟩ v0).setCell ⟨g, 1, none⟩ v1).setCell ⟨g, 2, none⟩ v2).setCell ⟨g, 3, none⟩ v3) g #[v0, v1, v2, v3, x4, x5, x6] e := h2.set 3 v3
  have h4 : Blk (((((w.setCell ⟨g, 0, none⟩ v0).setCell ⟨g, 1, none⟩ v1).setCell ⟨g, 2, none⟩ v2).setCell ⟨g, 3, none⟩ v3).setCell ⟨g, 4, none⟩ v4) g #[v0, v1, v2, v3, v4, x5, x6] e := h3.set 4 v4
  have h5 : Blk ((((((w.setCell ⟨g, 0, none⟩ v0).setCell ⟨g, 1, none⟩ v1).setCell ⟨g, 2, none⟩ v2).setCell ⟨g, 3, none⟩ v3).setCell ⟨g, 4, none⟩ v4).setCell ⟨g, 5, none⟩ v5) g #[v0, v1, v2, v3, v4, v5, x6] e := h4.set 5 v5
  have h6 : Blk (((((((w.setCell ⟨g, 0, none⟩ v0).setCell ⟨g, 1, none⟩ v1).setCell ⟨g, 2, none⟩ v2).setCell ⟨g, 3, none⟩ v3).setCell ⟨g, 4, none⟩ v4).setCell ⟨g, 5, none⟩ v5).setCell ⟨g, 6, none⟩ v6) g #[v0, v1, v2, v3, v4, v5, v6] e := h5.set 6 v6
  exact h6
set_option maxHeartbeats 4000000 in
theorem line_any (sh op : Int) (t x loc : ByteArray) (w : World) (ht : t.size = 1) (hx : x.size ≤ 1) (hloc : loc.size ≤ 2) :
    Calls Ybaf.prog 11 #[.int .u8 sh, .int .u8 op, .string t, .string x, .string loc] w fun e w' => ∃ nv av tv ov lv, e = .returned (.agg #[.int .u8 op, .int .u8 sh, nv, av, tv, ov, lv]) ∧ (∃ na nl nc, nv = .slice na nl nc) ∧
      BySl w' w.heap.size av (t.data.toList ++ 44 :: x.data.toList) ∧ BySl w' w.heap.size tv t.data.toList ∧ BySl w' w.heap.size ov (opOf sh x.data.toList) ∧ BySl w' w.heap.size lv (locOf sh loc.data.toList) ∧ Below w.heap.size w w' := by
  have h33 := conv33
  have HC : Hid ((t ++ ⟨#[44]⟩ ++ x).data.toList = t.data.toList ++ 44 :: x.data.toList) := by simp [Hid]
  have HRk : Hid (∀ o, Blk ((w.alloc (.cells #[.int .u8 0, .int .u8 0, .slice none 0 0, .slice none 0 0, .slice none 0 0, .slice none 0 0, .slice none 0 0] 59)).alloc o) w.heap.size #[.int .u8 0, .int .u8 0, .slice none 0 0, .slice none 0 0, .slice none 0 0, .slice none 0 0, .slice none 0 0] 59) := fun o => (Blk.new w _ _).alloc o
  have HBk : Hid (∀ o o', Below w.heap.size w ((w.alloc o).alloc o')) := fun o o' => ((Below.refl _ w).alloc (Nat.le_refl _) o).alloc (by simp) o'
  have hsz : (t ++ ⟨#[44]⟩ ++ x).size = 2 + x.size := by
    rw [ByteArray.size_append, ByteArray.size_append, ht]
    show 1 + 1 + x.size = _
    omega
  have HSZ := hid hsz
  clear hsz
  go_enter Ybaf.func11, Ybaf.ntmps11
  go_upto_if 26 with (first
    | (refine wpList_bytes rfl (.tmp 20) rfl _ rfl ?_
       intro ag ac w1 hav hb1
       rw [HC.out] at hav
       rw [HSZ.out] at hav
       have HA1 := hid (BySl.mono (lo' := w.heap.size + 1) hav (by simp))
       have HR1 : Hid (Blk w1 w.heap.size #[.int .u8 0, .int .u8 0, .slice none 0 0, .slice none 0 0, .slice none 0 0, .slice none 0 0, .slice none 0 0] 59) := (HRk.out _).below hb1 (by simp; omega)
       have HB1 : Hid (Below w.heap.size w w1) := (HBk.out _ _).trans (hb1.mono (by simp; omega))
       clear hav hb1)
    | (refine wpList_bytes rfl (.tmp 22) rfl _ rfl ?_
       intro tg tc w2 htv hb2
       rw [ht] at htv
       have HT2 := hid (BySl.mono (lo' := w.heap.size + 1) htv HR1.out.lt)
       have HA2 := hid (HA1.out.below hb2)
       have HR2 := hid (HR1.out.below hb2 HR1.out.lt)
       have HB2 := hid (HB1.out.trans (hb2.mono HB1.out.size))
       have lR2 := HR2.out.lt
       clear htv hb2))
  have hne : w2.heap.size ≠ w.heap.size := by omega
  have HL3 := hid (Blk.new w2 #[.int .u8 op, .int .u8 sh, .slice (some ⟨w.heap.size + 1, 0, none⟩) 1 1, .slice (some ⟨ag, 0, none⟩) (2 + x.size) ac, .slice (some ⟨tg, 0, none⟩) 1 tc, .slice none 0 0, .slice none 0 0] 59)
  have HR3 := hid (HR2.out.alloc (.cells #[.int .u8 op, .int .u8 sh, .slice (some ⟨w.heap.size + 1, 0, none⟩) 1 1, .slice (some ⟨ag, 0, none⟩) (2 + x.size) ac, .slice (some ⟨tg, 0, none⟩) 1 tc, .slice none 0 0, .slice none 0 0] 59))
  have HT3 := hid (HT2.out.alloc (.cells #[.int .u8 op, .int .u8 sh, .slice (some ⟨w.heap.size + 1, 0, none⟩) 1 1, .slice (some ⟨ag, 0, none⟩) (2 + x.size) ac, .slice (some ⟨tg, 0, none⟩) 1 tc, .slice none 0 0, .slice none 0 0] 59))
  have HA3 := hid (HA2.out.alloc (.cells #[.int .u8 op, .int .u8 sh, .slice (some ⟨w.heap.size + 1, 0, none⟩) 1 1, .slice (some ⟨ag, 0, none⟩) (2 + x.size) ac, .slice (some ⟨tg, 0, none⟩) 1 tc, .slice none 0 0, .slice none 0 0] 59))
  have HB3 := hid (HB2.out.alloc HB2.out.size (.cells #[.int .u8 op, .int .u8 sh, .slice (some ⟨w.heap.size + 1, 0, none⟩) 1 1, .slice (some ⟨ag, 0, none⟩) (2 + x.size) ac, .slice (some ⟨tg, 0, none⟩) 1 tc, .slice none 0 0, .slice none 0 0] 59))
  have lB := HB2.out.size
  have la := HA2.out.lt.2
  have lt := HT2.out.lt.2
  clear HR2 HT2 HA2 HB2 HR1 HA1 HB1 HC HRk HBk HSZ
  generalize (w2.alloc (.cells #[.int .u8 op, .int .u8 sh, .slice (some ⟨w.heap.size + 1, 0, none⟩) 1 1, .slice (some ⟨ag, 0, none⟩) (2 + x.size) ac, .slice (some ⟨tg, 0, none⟩) 1 tc, .slice none 0 0, .slice none 0 0] 59)) = w5 at HL3 HR3 HT3 HA3 HB3 ⊢
  generalize w2.heap.size = LB at *
  have lo1 : w.heap.size + 1 ≤ LB := by omega
  go_cut [] (fun wx => ∃ oa on oc, Blk wx LB #[.int .u8 op, .int .u8 sh, .slice (some ⟨w.heap.size + 1, 0, none⟩) 1 1, .slice (some ⟨ag, 0, none⟩) (2 + x.size) ac, .slice (some ⟨tg, 0, none⟩) 1 tc, .slice oa on oc, .slice none 0 0] 59 ∧ Blk wx w.heap.size #[.int .u8 0, .int .u8 0, .slice none 0 0, .slice none 0 0, .slice none 0 0, .slice none 0 0, .slice none 0 0] 59 ∧ BySl wx (w.heap.size + 1) (.slice (some ⟨ag, 0, none⟩) (2 + x.size) ac) (t.data.toList ++ 44 :: x.data.toList) ∧ BySl wx (w.heap.size + 1) (.slice (some ⟨tg, 0, none⟩) 1 tc) t.data.toList ∧ BySl wx (w.heap.size + 1) (.slice oa on oc) (opOf sh x.data.toList) ∧ (∀ g, (Value.slice oa on oc).ownBlock = some g → g ≠ LB) ∧ Below w.heap.size w wx)
  case first =>
    by_cases h6 : sh = 6
    · have hz1 : (sh == 6) = true := by simp [h6]
      have hz2 : (sh != 6) = false := by simp [h6]
      go_wp2_with fail
      go_meet
      exact ⟨_, _, _, HL3.out, HR3.out, HA3.out, HT3.out, Or.inl ⟨rfl, by simp [opOf, h6]⟩, by simp [Value.ownBlock], HB3.out⟩
    · have hz1 : (sh == 6) = false := by simp [h6]
      have hz2 : (sh != 6) = true := by simp [h6]
      go_wp2_with (first
        | (refine wpList_bytes rfl (.tmp 27) rfl _ rfl ?_
           intro og oc w6 hov hb6
           have HO6 := hid hov
           have HT6 := hid (HT3.out.below hb6)
           have HA6 := hid (HA3.out.below hb6)
           have HR6 := hid (HR3.out.below hb6 HR3.out.lt)
           have HL6 := hid (HL3.out.below hb6 HL3.out.lt)
           have HB6 := hid (HB3.out.trans (hb6.mono HB3.out.size))
           obtain ⟨m0, m1, m2, m3, m4, m5, m6, mf⟩ := HL6.out.cells7
           clear hov hb6))
      go_meet
      have f6 : Fr (fun j => j = LB) w6 (w6.setCell ⟨LB, 5, none⟩ (.slice (some ⟨og, 0, none⟩) x.size oc)) := Fr.setCell (S := fun j => j = LB) (Fr.refl _ w6) (fun _ => rfl) _
      have lo6 := HO6.out.lt.1
      have lb6 := HL3.out.lt
      refine ⟨some ⟨og, 0, none⟩, x.size, oc, HL6.out.set 5 _, HR6.out.fr f6 (by omega), HA6.out.fr f6 ?_, HT6.out.fr f6 ?_, ?_, ?_, (HB6.out.setCell (by omega) _)⟩
      · intro g' hg'; simp [Value.ownBlock] at hg'; omega
      · intro g' hg'; simp [Value.ownBlock] at hg'; omega
      · rw [opOf, if_neg h6]
        refine (HO6.out.fr f6 ?_).mono (by omega)
        intro g' hg'; simp [Value.ownBlock] at hg'; omega
      · intro g' hg'; simp [Value.ownBlock] at hg'; omega
  case rest =>
    obtain ⟨oa, on, oc, hL, hR, hA, hT, hO, hOn, hB⟩ := hcut
    have HL4 := hid hL
    have HR4 := hid hR
    have HA4 := hid hA
    have HT4 := hid hT
    have HO4 := hid hO
    have HOn := hid hOn
    have HB4 := hid hB
    clear hL hR hA hT hO hOn hB HL3 HR3 HA3 HT3 HB3
    go_upto_if 31 with fail
    go_cut [] (fun wx => ∃ la' ln lc', Blk wx LB #[.int .u8 op, .int .u8 sh, .slice (some ⟨w.heap.size + 1, 0, none⟩) 1 1, .slice (some ⟨ag, 0, none⟩) (2 + x.size) ac, .slice (some ⟨tg, 0, none⟩) 1 tc, .slice oa on oc, (.slice la' ln lc')] 59 ∧ Blk wx w.heap.size #[.int .u8 0, .int .u8 0, .slice none 0 0, .slice none 0 0, .slice none 0 0, .slice none 0 0, .slice none 0 0] 59 ∧ BySl wx (w.heap.size + 1) (.slice (some ⟨ag, 0, none⟩) (2 + x.size) ac) (t.data.toList ++ 44 :: x.data.toList) ∧ BySl wx (w.heap.size + 1) (.slice (some ⟨tg, 0, none⟩) 1 tc) t.data.toList ∧ BySl wx (w.heap.size + 1) (.slice oa on oc) (opOf sh x.data.toList) ∧ BySl wx (w.heap.size + 1) (.slice la' ln lc') (locOf sh loc.data.toList) ∧ Below w.heap.size w wx)
    case first =>
      by_cases h0 : sh = 0
      · have hz1 : (sh == 0) = true := by simp [h0]
        have H0 := hid h0
        clear h0
        go_wp2_with (first
          | (refine wpList_bytes rfl (.tmp 32) rfl _ rfl ?_
             intro og' oc' w6 hov hb6
             have HV6 := hid hov
             have HO6 := hid (HO4.out.below hb6)
             have HT6 := hid (HT4.out.below hb6)
             have HA6 := hid (HA4.out.below hb6)
             have HR6 := hid (HR4.out.below hb6 HR4.out.lt)
             have HL6 := hid (HL4.out.below hb6 HL4.out.lt)
             have HB6 := hid (HB4.out.trans (hb6.mono HB4.out.size))
             obtain ⟨m0, m1, m2, m3, m4, m5, m6, mf⟩ := HL6.out.cells7
             clear hov hb6))
        go_meet
        have f6 : Fr (fun j => j = LB) w6 (w6.setCell ⟨LB, 6, none⟩ (.slice (some ⟨og', 0, none⟩) loc.size oc')) := Fr.setCell (S := fun j => j = LB) (Fr.refl _ w6) (fun _ => rfl) _
        have lo6 := HV6.out.lt.1
        have lb6 := HL4.out.lt
        refine ⟨some ⟨og', 0, none⟩, loc.size, oc', HL6.out.set 6 _, HR6.out.fr f6 (by omega), HA6.out.fr f6 ?_, HT6.out.fr f6 ?_, HO6.out.fr f6 HOn.out, ?_, (HB6.out.setCell (by omega) _)⟩
        · intro g' hg'; simp [Value.ownBlock] at hg'; omega
        · intro g' hg'; simp [Value.ownBlock] at hg'; omega
        · rw [locOf, if_pos H0.out]
          refine (HV6.out.fr f6 ?_).mono (by omega)
          intro g' hg'; simp [Value.ownBlock] at hg'; omega
      · have hz1 : (sh == 0) = false := by simp [h0]
        go_wp2_with fail
        go_meet
        exact ⟨_, _, _, HL4.out, HR4.out, HA4.out, HT4.out, HO4.out, Or.inl ⟨rfl, by simp [locOf, h0]⟩, HB4.out⟩
    case rest =>
      obtain ⟨la', ln, lc', hL, hR, hA, hT, hO, hV, hB⟩ := hcut
      obtain ⟨m0, m1, m2, m3, m4, m5, m6, mf⟩ := hL.cells7
      obtain ⟨q0, q1, q2, q3, q4, q5, q6, qf⟩ := hR.cells7
      have lR := hR.lt
      have HR7 := hid hR
      have HA7 := hid hA
      have HT7 := hid hT
      have HO7 := hid hO
      have HV7 := hid hV
      have HB7 := hid hB
      clear hL hR hA hT hO hV hB HL4 HR4 HA4 HT4 HO4 HB4
      go_wp2
      have fF := fr_set7 wc w.heap.size 0 1 2 3 4 5 6 (.int .u8 op) (.int .u8 sh) (.slice (some ⟨w.heap.size + 1, 0, none⟩) 1 1) (.slice (some ⟨ag, 0, none⟩) (2 + x.size) ac) (.slice (some ⟨tg, 0, none⟩) 1 tc) (.slice oa on oc) (.slice la' ln lc')
      have hF := HR7.out.sets7 (.int .u8 op) (.int .u8 sh) (.slice (some ⟨w.heap.size + 1, 0, none⟩) 1 1) (.slice (some ⟨ag, 0, none⟩) (2 + x.size) ac) (.slice (some ⟨tg, 0, none⟩) 1 tc) (.slice oa on oc) (.slice la' ln lc')
      generalize (((((((wc.setCell ⟨w.heap.size, 0, none⟩ (.int .u8 op)).setCell ⟨w.heap.size, 1, none⟩ (.int .u8 sh)).setCell ⟨w.heap.size, 2, none⟩ (.slice (some ⟨w.heap.size + 1, 0, none⟩) 1 1)).setCell ⟨w.heap.size, 3, none⟩ (.slice (some ⟨ag, 0, none⟩) (2 + x.size) ac)).setCell ⟨w.heap.size, 4, none⟩ (.slice (some ⟨tg, 0, none⟩) 1 tc)).setCell ⟨w.heap.size, 5, none⟩ (.slice oa on oc)).setCell ⟨w.heap.size, 6, none⟩ (.slice la' ln lc')) = W7 at fF hF ⊢
      clear q0 q1 q2 q3 q4 q5 q6 qf
      obtain ⟨q0, q1, q2, q3, q4, q5, q6, qf⟩ := hF.cells7
      have key : ∀ (v : Value) (l : List UInt8), BySl wc (w.heap.size + 1) v l → BySl W7 w.heap.size v l := fun v l h => (h.fr fF (fun g' hg' he => by have := h.low hg'; omega)).mono (by omega)
      have hB8 : Below w.heap.size w W7 := HB7.out.trans (fF.below HB7.out.size (fun k hk => by omega))
      refine bodyPost_ret (v := .agg #[.int .u8 op, .int .u8 sh, .slice (some ⟨w.heap.size + 1, 0, none⟩) 1 1, .slice (some ⟨ag, 0, none⟩) (2 + x.size) ac, .slice (some ⟨tg, 0, none⟩) 1 tc, .slice oa on oc, .slice la' ln lc']) (by simp [results, Ybaf.results11, go_sem, q0, q1, q2, q3, q4, q5, q6]) rfl ⟨_, _, _, _, _, rfl, ⟨_, _, _, rfl⟩, key _ _ HA7.out, key _ _ HT7.out, key _ _ HO7.out, key _ _ HV7.out, hB8⟩
end Go.Proofs.YbulkawpsFmt
