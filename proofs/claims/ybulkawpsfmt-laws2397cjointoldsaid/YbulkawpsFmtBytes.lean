import Derived.Test.YbulkawpsFmtName
import Derived.Deep.Upon
import Derived.Lib.AppendStr
/- Rows of bytes that the call owns, and appends onto them. -/
namespace Go.Proofs.YbulkawpsFmt
open Go.RowKit
set_option linter.unusedVariables false
set_option maxRecDepth 100000
theorem info5 : (Ybaf.prog.info? 5).map (fun i => (i.zero, i.size, i.bytes)) = some (some (.int .u8 0), 1, 1) := by kernel_rfl
def bv (l : List UInt8) : List Value := l.map fun b => .int .u8 (b.toNat : Int)
theorem bv_app (l m : List UInt8) : bv (l ++ m) = bv l ++ bv m := by simp [bv]
/-- a row of bytes that the call owns -/
def BRow (w : World) (base : Nat) (v : Value) (l : List UInt8) : Prop := w.ownsRow base 5 1 v l.length (bv l)
/-- the blocks of bytes that bear no mark, from base on -/
def S5 (base : Nat) (w : World) (j : Nat) : Prop := base ≤ j ∧ ∃ c, Blk w j c 5
theorem BRow.s5 {w : World} {base : Nat} {v : Value} {l : List UInt8} (h : BRow w base v l) {g : Nat} (hg : v.ownBlock = some g) : S5 base w g := by
  obtain ⟨_, cur, _, hbg, hb, _⟩ := row_blk h hg
  exact ⟨hbg, cur, hb⟩
/-- frames over the rows of bytes: what turns is a row of bytes without a mark -/
theorem Fr.s5 {a b c : World} {base : Nat} {v : Value} {l : List UInt8} (f : Fr (S5 base a) a b) (h : BRow b base v l) (g : Fr (fun j => v.ownBlock = some j) b c) : Fr (S5 base a) a c :=
  f.trans g (fun k hk hv => by
    by_cases hs : S5 base a k
    · exact hs
    · obtain ⟨hbk, cu, hb⟩ := h.s5 hv
      exact ⟨hbk, cu, by unfold Blk at hb ⊢; rw [← f.block k hk hs]; exact hb⟩)
section
variable {W : World} {o : Oper} {a : Act} {Q : Exit → Act → World → Prop} {ops : Array Oper} {rest : List Oper}
/-- append(b, x...): x a slice out of a string -/
theorem wpList_appB (hgd : o.guard = none) (s x : Operand) (ho : o.op = .call { callee := .builtin .append, args := #[s, x], argTypes := #[33, 33] })
    (base lo : Nat) (v : Value) (l m : List UInt8) (xv : Value) (hs : a.eval s = v) (hx : a.eval x = xv) (hown : BRow W base v l) (hl : 0 < l.length) (hB : BySl W lo xv m) (hn : l.length + m.length < 1000) (hbase : base ≤ W.heap.size)
    (h : ∀ g cap n' w', n' = (l ++ m).length → BRow w' base (.slice (some ⟨g, 0, none⟩) n' cap) (l ++ m) → Fr (fun j => v.ownBlock = some j) W w' → wpList Ybaf.prog ops Q rest (a.put o.dst (.slice (some ⟨g, 0, none⟩) n' cap)) w') : wpList Ybaf.prog ops Q (o :: rest) a W := by
  obtain ⟨i, hi, hz, hsi, hbi⟩ := info_parts info5
  refine wpList_plain hgd fun K hK => ?_
  rcases hB with ⟨rfl, rfl⟩ | ⟨g, cap, mm, c, rfl, _, hg, hc⟩
  · obtain ⟨g, cap, hf, _, _⟩ := World.ownsRow.form hown hl
    have hcap : l.length ≤ cap := by
      obtain ⟨cap', cur, hv, _, _, h1, _⟩ := row_blk hown (g := g) (by rw [hf]; rfl)
      rw [hf] at hv; cases hv; exact h1
    subst hf
    have hr := run_append_nothing (P := Ybaf.prog) W 33 33 o.type 5 i Ybaf.underlying33 hi (some ⟨g, 0, none⟩) l.length cap hcap (.slice none 0 0) (Src.ofNil (P := Ybaf.prog) W Ybaf.underlying33 0)
    unfold Oper.wp execOp
    simp only [ho, resolve, invoke, builtin, Sem.run_bind, Sem.run_pure, Result.andThen_ok, List.map_toArray, List.map_cons, List.map_nil, hs, hx, hr]
    refine hK _ _ ?_
    exact h g cap l.length W (by simp) (by simpa using hown) (Fr.refl _ _)
  · have hml : 0 < m.length ∨ m.length = 0 := by omega
    obtain ⟨v', w', hr, h2, h3, _, h5⟩ := run_append_own_at (P := Ybaf.prog) W base 33 o.type 5 i (.int .u8 0) 1 1 Ybaf.underlying33 hi hz hsi hbi rfl (by decide) v l.length (bv l) hown ⟨g, 0, none⟩ m.length cap (bv m) (by simp [bv]) (fun j u hj => by
      simp [bv] at hj
      obtain ⟨b, hb, rfl⟩ := hj
      rw [Addr.add_lit, Nat.zero_add]
      unfold World.cell?
      simp only [hg]
      exact hc j b hb) (fun u hu => by simp [bv] at hu; obtain ⟨b, _, rfl⟩ := hu; rfl) (by unfold maxLen; omega) (by omega) hbase
    obtain ⟨g', cap', rfl, _, _⟩ := h2.form (by omega)
    unfold Oper.wp execOp
    simp only [ho, resolve, invoke, builtin, Sem.run_bind, Sem.run_pure, Result.andThen_ok, List.map_toArray, List.map_cons, List.map_nil, hs, hx, hr]
    refine hK _ _ ?_
    exact h g' cap' _ w' (by rw [List.length_append]) (by unfold BRow; rw [List.length_append, bv_app]; exact h2) ((Fr.refl _ W).grown h3 (fun k hk _ => hk))
/-- append(b, s...): s a string -/
theorem wpList_appS (hgd : o.guard = none) (s x : Operand) (ho : o.op = .call { callee := .builtin .append, args := #[s, x], argTypes := #[33, 9] })
    (base : Nat) (v : Value) (l : List UInt8) (str : ByteArray) (hs : a.eval s = v) (hx : a.eval x = .string str) (hown : BRow W base v l) (hl : 0 < l.length) (hn : l.length + str.size < 1000) (hbase : base ≤ W.heap.size)
    (h : ∀ g cap n' w', n' = (l ++ str.data.toList).length → BRow w' base (.slice (some ⟨g, 0, none⟩) n' cap) (l ++ str.data.toList) → Fr (fun j => v.ownBlock = some j) W w' → wpList Ybaf.prog ops Q rest (a.put o.dst (.slice (some ⟨g, 0, none⟩) n' cap)) w') : wpList Ybaf.prog ops Q (o :: rest) a W := by
  obtain ⟨i, hi, hz, hsi, hbi⟩ := info_parts info5
  refine wpList_plain hgd fun K hK => ?_
  obtain ⟨v', w', hr, h2, h3, _⟩ := Lib.run_append_own_string (P := Ybaf.prog) W base 33 9 o.type 5 i Ybaf.underlying33 Ybaf.underlying9 hi hz hsi hbi v l.length (bv l) hown str (by unfold maxLen; omega) (by omega) hbase
  obtain ⟨g', cap', rfl, _, _⟩ := h2.form (by omega)
  have e1 : (l ++ str.data.toList).length = l.length + str.size := by rw [List.length_append, Array.length_toList]; rfl
  unfold Oper.wp execOp
  simp only [ho, resolve, invoke, builtin, Sem.run_bind, Sem.run_pure, Result.andThen_ok, List.map_toArray, List.map_cons, List.map_nil, hs, hx, hr]
  refine hK _ _ ?_
  exact h g' cap' _ w' e1.symm (by unfold BRow; rw [e1, bv_app]; exact h2) ((Fr.refl _ W).grown h3 (fun k hk _ => hk))
/-- append(b, c1, ..): a few bytes, laid in a block of their own -/
theorem wpList_appL (hgd : o.guard = none) (s x : Operand) (ho : o.op = .call { callee := .builtin .append, args := #[s, x], argTypes := #[33, 33] })
    (base R : Nat) (v : Value) (l m : List UInt8) (hs : a.eval s = v) (hx : a.eval x = .slice (some ⟨R, 0, none⟩) m.length m.length) (hown : BRow W base v l) (hm : 0 < m.length) (hB : Blk W R (bv m).toArray 5) (hn : l.length + m.length < 1000) (hbase : base ≤ W.heap.size)
    (h : ∀ g cap n' w', n' = (l ++ m).length → BRow w' base (.slice (some ⟨g, 0, none⟩) n' cap) (l ++ m) → Fr (fun j => v.ownBlock = some j) W w' → wpList Ybaf.prog ops Q rest (a.put o.dst (.slice (some ⟨g, 0, none⟩) n' cap)) w') : wpList Ybaf.prog ops Q (o :: rest) a W := by
  obtain ⟨i, hi, hz, hsi, hbi⟩ := info_parts info5
  refine wpList_plain hgd fun K hK => ?_
  obtain ⟨v', w', hr, h2, h3, _, h5⟩ := run_append_own_at (P := Ybaf.prog) W base 33 o.type 5 i (.int .u8 0) 1 1 Ybaf.underlying33 hi hz hsi hbi rfl (by decide) v l.length (bv l) hown ⟨R, 0, none⟩ m.length m.length (bv m) (by simp [bv]) (fun j u hj => by
    have := World.news_of_block hB j u (by simpa using hj)
    exact this) (fun u hu => by simp [bv] at hu; obtain ⟨b, _, rfl⟩ := hu; rfl) (by unfold maxLen; omega) (by omega) hbase
  obtain ⟨g', cap', rfl, _, _⟩ := h2.form (by omega)
  unfold Oper.wp execOp
  simp only [ho, resolve, invoke, builtin, Sem.run_bind, Sem.run_pure, Result.andThen_ok, List.map_toArray, List.map_cons, List.map_nil, hs, hx, hr]
  refine hK _ _ ?_
  exact h g' cap' _ w' (by rw [List.length_append]) (by unfold BRow; rw [List.length_append, bv_app]; exact h2) ((Fr.refl _ W).grown h3 (fun k hk _ => hk))
end
end Go.Proofs.YbulkawpsFmt
