import Derived.Test.YbulkawpsFmtPlace1
/- Maps from strings to bools, as the reader's 'started' and 'waiting'. -/
namespace Go.Proofs.YbulkawpsFmt
open Go.RowKit
set_option linter.unusedVariables false
set_option maxRecDepth 100000
/-- what the map says at a key -/
def BAt (D : DataW Unit) (s : ByteArray) (x : Bool) : Prop := D.atKey (.string s.data.toList) (.lit (.bool false)) = .lit (.bool x)
theorem bools_look {W : World} {b n : Nat} {D : DataW Unit} (h : W.ownsMap Ybaf.prog 9 (plainElem Ybaf.prog 4) b n D) (s : ByteArray) (hs : s.size ≤ maxLen) {x : Bool} (hx : BAt D s x) :
    (Instr.lookup 36 (.map (some b)) (.string s) false).run Ybaf.prog W = .ok (.bool x) W := by
  have hz : (zeroValue 4).run Ybaf.prog W = .ok (.bool false) W := by kernel_rfl
  obtain ⟨v, ps, hr, hv⟩ := h.lookup (Maps.string_keyed Ybaf.underlying9) Ybaf.underlying36 hz (plainElem_bool Ybaf.underlying4 false) (key9 s hs)
  rw [show D.atKey (.string s.data.toList) (.lit (.bool false)) = .lit (.bool x) from hx] at hv
  have : v = .bool x := by
    unfold plainElem at hv
    rw [Ybaf.underlying4] at hv
    split at hv
    · simp at hv; rw [hv.1]
    · simp_all
    · simp_all
    · cases hv
  rw [this] at hr
  exact hr
theorem bools_put {W : World} {b n : Nat} {D : DataW Unit} (h : W.ownsMap Ybaf.prog 9 (plainElem Ybaf.prog 4) b n D) (s : ByteArray) (hs : s.size ≤ maxLen) (hn : n < maxLen) :
    ∃ w', (Instr.mapUpdate 36 (.map (some b)) (.string s) (.bool true)).run Ybaf.prog W = .ok () w' ∧ w'.ownsMap Ybaf.prog 9 (plainElem Ybaf.prog 4) b (n + 1) (D.put (.string s.data.toList) (.lit (.bool true))) ∧ W.mapTurned w' b :=
  h.store (Maps.string_keyed Ybaf.underlying9) Ybaf.underlying36 hn (key9 s hs) (plainElem_bool Ybaf.underlying4 true)
theorem bools_del {W : World} {b n : Nat} {D : DataW Unit} (h : W.ownsMap Ybaf.prog 9 (plainElem Ybaf.prog 4) b n D) (s : ByteArray) (hs : s.size ≤ maxLen) (ty : TypeId) :
    ∃ w', (Builtin.delete_ #[36, 9] ty #[.map (some b), .string s]).run Ybaf.prog W = .ok (.tuple #[]) w' ∧ w'.ownsMap Ybaf.prog 9 (plainElem Ybaf.prog 4) b n (D.del (.string s.data.toList)) ∧ W.mapTurned w' b :=
  h.drop (Maps.string_keyed Ybaf.underlying9) Ybaf.underlying36 (key9 s hs) ty
theorem BAt.put_same {D : DataW Unit} (hm : Maps.IsMap D) (s : ByteArray) : BAt (D.put (.string s.data.toList) (.lit (.bool true))) s true := Maps.atKey_put_same hm (by simp [WideAt.IsKeyLit]) _ _
theorem BAt.put_other {D : DataW Unit} {s s' : ByteArray} {x : Bool} (h : BAt D s' x) (hne : s'.data.toList ≠ s.data.toList) (d : DataW Unit) : BAt (D.put (.string s.data.toList) d) s' x := by
  unfold BAt
  rw [Maps.atKey_put_other (by intro e; simp at e; exact hne (by rw [e]))]
  exact h
theorem BAt.del_same {D : DataW Unit} (s : ByteArray) : BAt (D.del (.string s.data.toList)) s false := Maps.atKey_del_same _
theorem BAt.del_other {D : DataW Unit} {s s' : ByteArray} {x : Bool} (h : BAt D s' x) (hne : s'.data.toList ≠ s.data.toList) : BAt (D.del (.string s.data.toList)) s' x := by
  unfold BAt
  rw [Maps.atKey_del_other (by intro e; simp at e; exact hne (by rw [e]))]
  exact h
theorem BAt.empty (s : ByteArray) : BAt (.map []) s false := by simp [BAt, DataW.atKey]
end Go.Proofs.YbulkawpsFmt
