import Derived.Test.YbulkawpsFmtState
/- The reader where Join lines are pending: its maps 'joins' and 'awaited'. -/
namespace Go.Proofs.YbulkawpsFmt
open Go.RowKit
set_option linter.unusedVariables false
set_option maxRecDepth 100000
/-! ### the two maps -/
def jR (v : Value) : Option (DataW Unit × List MemPlace) := match v with
  | .pointer none => some (.nil, [])
  | .pointer (some ⟨b, 0, none⟩) => some (.lit (.int .i64 b), [])
  | _ => none
def aR (v : Value) : Option (DataW Unit × List MemPlace) := match v with
  | .slice none 0 0 => some (.nil, [])
  | .slice (some ⟨b, 0, none⟩) 1 c => some (.agg [.lit (.int .i64 b), .lit (.int .i64 c)], [])
  | _ => none
theorem jR_nil {v : Value} {ps : List MemPlace} (h : jR v = some (.nil, ps)) : v = .pointer none := by
  unfold jR at h
  split at h
  · rfl
  · simp at h
  · cases h
theorem jR_some {v : Value} {b : Nat} {ps : List MemPlace} (h : jR v = some (.lit (.int .i64 b), ps)) : v = .pointer (some ⟨b, 0, none⟩) := by
  unfold jR at h
  split at h
  · simp at h
  · simp at h
    have := Int.ofNat.inj h.1
    subst this
    rfl
  · cases h
theorem aR_nil {v : Value} {ps : List MemPlace} (h : aR v = some (.nil, ps)) : v = .slice none 0 0 := by
  unfold aR at h
  split at h
  · rfl
  · simp at h
  · cases h
theorem aR_some {v : Value} {b c : Nat} {ps : List MemPlace} (h : aR v = some (.agg [.lit (.int .i64 b), .lit (.int .i64 c)], ps)) : v = .slice (some ⟨b, 0, none⟩) 1 c := by
  unfold aR at h
  split at h
  · simp at h
  · simp at h
    obtain ⟨⟨h1, h2⟩, _⟩ := h
    have h1 := Int.ofNat.inj h1
    have h2 := Int.ofNat.inj h2
    subst h1 h2
    rfl
  · cases h
def eD : DataW Unit := .map []
def jD (t : ByteArray) (b : Nat) : DataW Unit := .map [(.string t.data.toList, .lit (.int .i64 b))]
def aD (u : ByteArray) (b c : Nat) : DataW Unit := .map [(.string u.data.toList, .agg [.lit (.int .i64 b), .lit (.int .i64 c)])]
theorem jD_put (t : ByteArray) (b : Nat) : eD.put (.string t.data.toList) (.lit (.int .i64 b)) = jD t b := rfl
theorem aD_put (u : ByteArray) (b c : Nat) : eD.put (.string u.data.toList) (.agg [.lit (.int .i64 b), .lit (.int .i64 c)]) = aD u b c := rfl
theorem jD_del (t : ByteArray) (b : Nat) : (jD t b).del (.string t.data.toList) = eD := by simp [jD, DataW.del, Lit.sameKey, eD]
theorem aD_del (u : ByteArray) (b c : Nat) : (aD u b c).del (.string u.data.toList) = eD := by simp [aD, DataW.del, Lit.sameKey, eD]
theorem jD_at (t : ByteArray) (b : Nat) : (jD t b).atKey (.string t.data.toList) .nil = .lit (.int .i64 b) := by simp [jD, DataW.atKey, Lit.sameKey]
theorem aD_at (u : ByteArray) (b c : Nat) : (aD u b c).atKey (.string u.data.toList) .nil = .agg [.lit (.int .i64 b), .lit (.int .i64 c)] := by simp [aD, DataW.atKey, Lit.sameKey]
theorem jD_other {t x : ByteArray} (b : Nat) (h : t.data.toList ≠ x.data.toList) : (jD t b).atKey (.string x.data.toList) .nil = .nil := by simp [jD, DataW.atKey, Lit.sameKey, List.find?, beq_eq_false_iff_ne.2 h]
theorem aD_other {u x : ByteArray} (b c : Nat) (h : u.data.toList ≠ x.data.toList) : (aD u b c).atKey (.string x.data.toList) .nil = .nil := by simp [aD, DataW.atKey, Lit.sameKey, List.find?, beq_eq_false_iff_ne.2 h]
theorem eD_at (k : Lit) : eD.atKey k .nil = .nil := by simp [eD, DataW.atKey]
section
variable {W : World} {b n : Nat} {D : DataW Unit}
theorem j_look (h : W.ownsMap Ybaf.prog 9 jR b n D) (s : ByteArray) (hs : s.size ≤ maxLen) {x : Nat} (hx : D.atKey (.string s.data.toList) .nil = .lit (.int .i64 x)) : (Instr.lookup 37 (.map (some b)) (.string s) false).run Ybaf.prog W = .ok (.pointer (some ⟨x, 0, none⟩)) W := by
  have hz : (zeroValue 41).run Ybaf.prog W = .ok (.pointer none) W := by kernel_rfl
  obtain ⟨v, ps, hr, hv⟩ := h.lookup (Maps.string_keyed Ybaf.underlying9) Ybaf.underlying37 hz (zd := .nil) (zp := []) rfl (key9 s hs)
  rw [hx] at hv
  rw [jR_some hv] at hr
  exact hr
theorem j_none (h : W.ownsMap Ybaf.prog 9 jR b n D) (s : ByteArray) (hs : s.size ≤ maxLen) (hx : D.atKey (.string s.data.toList) .nil = .nil) : (Instr.lookup 37 (.map (some b)) (.string s) false).run Ybaf.prog W = .ok (.pointer none) W := by
  have hz : (zeroValue 41).run Ybaf.prog W = .ok (.pointer none) W := by kernel_rfl
  obtain ⟨v, ps, hr, hv⟩ := h.lookup (Maps.string_keyed Ybaf.underlying9) Ybaf.underlying37 hz (zd := .nil) (zp := []) rfl (key9 s hs)
  rw [hx] at hv
  rw [jR_nil hv] at hr
  exact hr
theorem a_look (h : W.ownsMap Ybaf.prog 9 aR b n D) (s : ByteArray) (hs : s.size ≤ maxLen) {x c : Nat} (hx : D.atKey (.string s.data.toList) .nil = .agg [.lit (.int .i64 x), .lit (.int .i64 c)]) : (Instr.lookup 38 (.map (some b)) (.string s) false).run Ybaf.prog W = .ok (.slice (some ⟨x, 0, none⟩) 1 c) W := by
  have hz : (zeroValue 64).run Ybaf.prog W = .ok (.slice none 0 0) W := by kernel_rfl
  obtain ⟨v, ps, hr, hv⟩ := h.lookup (Maps.string_keyed Ybaf.underlying9) Ybaf.underlying38 hz (zd := .nil) (zp := []) rfl (key9 s hs)
  rw [hx] at hv
  rw [aR_some hv] at hr
  exact hr
theorem a_none (h : W.ownsMap Ybaf.prog 9 aR b n D) (s : ByteArray) (hs : s.size ≤ maxLen) (hx : D.atKey (.string s.data.toList) .nil = .nil) : (Instr.lookup 38 (.map (some b)) (.string s) false).run Ybaf.prog W = .ok (.slice none 0 0) W := by
  have hz : (zeroValue 64).run Ybaf.prog W = .ok (.slice none 0 0) W := by kernel_rfl
  obtain ⟨v, ps, hr, hv⟩ := h.lookup (Maps.string_keyed Ybaf.underlying9) Ybaf.underlying38 hz (zd := .nil) (zp := []) rfl (key9 s hs)
  rw [hx] at hv
  rw [aR_nil hv] at hr
  exact hr
theorem j_put (h : W.ownsMap Ybaf.prog 9 jR b n D) (s : ByteArray) (hs : s.size ≤ maxLen) (hn : n < maxLen) (x : Nat) :
    ∃ w', (Instr.mapUpdate 37 (.map (some b)) (.string s) (.pointer (some ⟨x, 0, none⟩))).run Ybaf.prog W = .ok () w' ∧ w'.ownsMap Ybaf.prog 9 jR b (n + 1) (D.put (.string s.data.toList) (.lit (.int .i64 x))) ∧ W.mapTurned w' b :=
  h.store (Maps.string_keyed Ybaf.underlying9) Ybaf.underlying37 hn (key9 s hs) (ps := []) rfl
theorem a_put (h : W.ownsMap Ybaf.prog 9 aR b n D) (s : ByteArray) (hs : s.size ≤ maxLen) (hn : n < maxLen) (x c : Nat) :
    ∃ w', (Instr.mapUpdate 38 (.map (some b)) (.string s) (.slice (some ⟨x, 0, none⟩) 1 c)).run Ybaf.prog W = .ok () w' ∧ w'.ownsMap Ybaf.prog 9 aR b (n + 1) (D.put (.string s.data.toList) (.agg [.lit (.int .i64 x), .lit (.int .i64 c)])) ∧ W.mapTurned w' b :=
  h.store (Maps.string_keyed Ybaf.underlying9) Ybaf.underlying38 hn (key9 s hs) (ps := []) rfl
theorem j_del (h : W.ownsMap Ybaf.prog 9 jR b n D) (s : ByteArray) (hs : s.size ≤ maxLen) (ty : TypeId) :
    ∃ w', (Builtin.delete_ #[37, 9] ty #[.map (some b), .string s]).run Ybaf.prog W = .ok (.tuple #[]) w' ∧ w'.ownsMap Ybaf.prog 9 jR b n (D.del (.string s.data.toList)) ∧ W.mapTurned w' b :=
  h.drop (Maps.string_keyed Ybaf.underlying9) Ybaf.underlying37 (key9 s hs) ty
theorem a_del (h : W.ownsMap Ybaf.prog 9 aR b n D) (s : ByteArray) (hs : s.size ≤ maxLen) (ty : TypeId) :
    ∃ w', (Builtin.delete_ #[38, 9] ty #[.map (some b), .string s]).run Ybaf.prog W = .ok (.tuple #[]) w' ∧ w'.ownsMap Ybaf.prog 9 aR b n (D.del (.string s.data.toList)) ∧ W.mapTurned w' b :=
  h.drop (Maps.string_keyed Ybaf.underlying9) Ybaf.underlying38 (key9 s hs) ty
end
/-! ### what may turn while a line is placed -/
/-- blocks that a 'place' may turn: maps, the reader, its text, pending joins and their rows, the queue -/
def SS (base : Nat) (qv : Value) (w : World) (i : Nat) : Prop := base ≤ i ∧ ((∃ es cl, w.heap[i]? = some (.map es cl)) ∨ (∃ c e, Blk w i c e ∧ (e = 40 ∨ e = 5 ∨ e = 43 ∨ e = 41)) ∨ qv.ownBlock = some i)
theorem SS.trans {base : Nat} {qv qv' : Value} {w w' w'' : World} (f : Fr (SS base qv w) w w') (f' : Fr (SS base qv' w') w' w'') (hq : ∀ g, qv'.ownBlock = some g → qv.ownBlock = some g ∨ w.heap.size ≤ g) : Fr (SS base qv w) w w'' :=
  f.trans f' (fun k hk hS => by
    by_cases hs : SS base qv w k
    · exact hs
    · have hb := f.block k hk hs
      obtain ⟨h1, h2⟩ := hS
      refine ⟨h1, ?_⟩
      rcases h2 with ⟨es, cl, h⟩ | ⟨c, e, h, he⟩ | h
      · exact Or.inl ⟨es, cl, hb ▸ h⟩
      · exact Or.inr (Or.inl ⟨c, e, by unfold Blk at h ⊢; rw [← hb]; exact h, he⟩)
      · rcases hq k h with h | h
        · exact Or.inr (Or.inr h)
        · omega)
theorem SS.of_below {base : Nat} {qv : Value} {w w' : World} (h : Below w.heap.size w w') : Fr (SS base qv w) w w' := (Fr.of_grown h).mono (fun _ _ h => h.elim)
theorem Names.ss {base : Nat} {qv : Value} {w w' : World} (h : Names w) (f : Fr (SS base qv w) w w') (hb : 0 < base) : Names w' := fun i s hi =>
  f.cell_some (h i s hi) (fun hS => by have := hS.1; simp at this; omega)
theorem BySl.ss {base lo : Nat} {qv v : Value} {w w' : World} {l : List UInt8} (h : BySl w lo v l) (f : Fr (SS base qv w) w w') (hq : ∀ g, qv.ownBlock = some g → ∃ c e, Blk w g c e) : BySl w' lo v l :=
  h.fr f (fun g hg hS => by
    rcases hS.2 with ⟨es, cl, hm⟩ | ⟨c, e, hb, _⟩ | hb
    · rcases h with ⟨h, _⟩ | ⟨g', cap, m, c, hv, hl, hh, hc⟩
      · rw [h] at hg; simp [Value.ownBlock] at hg
      · rw [hv] at hg; simp [Value.ownBlock] at hg
        subst hg
        rw [hh] at hm
        cases hm
    · exact h.own hg hb
    · obtain ⟨c, e, hb⟩ := hq g hb
      exact h.own hg hb)
theorem Blk.ss {base g : Nat} {qv : Value} {w w' : World} {c : Array Value} {e : TypeId} (h : Blk w g c e) (f : Fr (SS base qv w) w w') (h1 : e ≠ 40) (h2 : e ≠ 5) (h3 : e ≠ 43) (h4 : e ≠ 41) (hq : qv.ownBlock ≠ some g) : Blk w' g c e :=
  h.fr f (fun hS => by
    rcases hS.2 with ⟨es, cl, hm⟩ | ⟨c', e', hb, he⟩ | hb
    · exact not_map h hm
    · have : e = e' := by
        unfold Blk at h hb; rw [h] at hb; simp at hb; exact hb.2
      subst this
      rcases he with he | he | he | he
      · exact h1 he
      · exact h2 he
      · exact h3 he
      · exact h4 he
    · exact hq hb)
/-! ### the reader -/
structure Rdj (w : World) (base r mj ma nj na : Nat) (x7 x8 tv qv : Value) (L : List It) (Dj Da : DataW Unit) : Prop where
  blk : Blk w r #[.string ⟨#[]⟩, .pointer none, tv, qv, .int .i64 0, .int .i64 0, .nilIface, x7, x8, .map (some mj), .map (some ma)] 40
  q : w.ownsRow base 30 6 qv L.length (itF L)
  t : ∃ xt, BRow w base tv xt
  jo : w.ownsMap Ybaf.prog 9 jR mj nj Dj
  aw : w.ownsMap Ybaf.prog 9 aR ma na Da
  lo : base ≤ w.heap.size
  hr : base ≤ r
  hj : base ≤ mj
  ha : base ≤ ma
  ne : mj ≠ ma
section
variable {w w' : World} {base r mj ma nj na : Nat} {x7 x8 tv qv : Value} {L : List It} {Dj Da : DataW Unit}
theorem Rdj.qb (h : Rdj w base r mj ma nj na x7 x8 tv qv L Dj Da) : ∀ g, qv.ownBlock = some g → ∃ c e, Blk w g c e := fun g hg => by
  obtain ⟨_, c, _, _, hb, _⟩ := row_blk h.q hg
  exact ⟨c, 30, hb⟩
theorem Rdj.fr {S : Nat → Prop} (h : Rdj w base r mj ma nj na x7 x8 tv qv L Dj Da) (f : Fr S w w') (hr : ¬ S r) (hq : ∀ g, qv.ownBlock = some g → ¬ S g) (h5 : ∀ g c, Blk w g c 5 → ¬ S g) (hj : ¬ S mj) (ha : ¬ S ma) : Rdj w' base r mj ma nj na x7 x8 tv qv L Dj Da := by
  obtain ⟨xt, ht⟩ := h.t
  refine ⟨h.blk.fr f hr, row_fr h.q f hq, ⟨xt, row_fr ht f (fun g hg => ?_)⟩, map_fr h.jo f hj, map_fr h.aw f ha, Nat.le_trans h.lo f.size, h.hr, h.hj, h.ha, h.ne⟩
  obtain ⟨_, _, _, _, hb, _⟩ := row_blk ht hg
  exact h5 g _ hb
theorem Rdj.below (h : Rdj w base r mj ma nj na x7 x8 tv qv L Dj Da) (hb : Below w.heap.size w w') : Rdj w' base r mj ma nj na x7 x8 tv qv L Dj Da :=
  h.fr (Fr.of_grown hb) (fun h => h) (fun _ _ h => h) (fun _ _ _ h => h) (fun h => h) (fun h => h)
theorem map_ne' {P : Program} {k : TypeId} {R : Value → Option (DataW Unit × List MemPlace)} {b n : Nat} {D : DataW Unit} (h : w.ownsMap P k R b n D) {g : Nat} {c : Array Value} {e : TypeId} (hb : Blk w g c e) : b ≠ g := fun e => map_ne h hb e.symm
theorem Rdj.turnJ (h : Rdj w base r mj ma nj na x7 x8 tv qv L Dj Da) (ht : w.mapTurned w' mj) {nj' : Nat} {Dj' : DataW Unit} (hm : w'.ownsMap Ybaf.prog 9 jR mj nj' Dj') : Rdj w' base r mj ma nj' na x7 x8 tv qv L Dj' Da := by
  have f := turn_fr ht
  obtain ⟨xt, hxt⟩ := h.t
  refine ⟨h.blk.fr f (map_ne h.jo h.blk), row_fr h.q f (fun g hg hS => ?_), ⟨xt, row_fr hxt f (fun g hg hS => ?_)⟩, hm, map_fr h.aw f (fun e => h.ne e.symm), Nat.le_trans h.lo f.size, h.hr, h.hj, h.ha, h.ne⟩
  · obtain ⟨_, _, _, _, hb, _⟩ := row_blk h.q hg
    exact map_ne h.jo hb hS
  · obtain ⟨_, _, _, _, hb, _⟩ := row_blk hxt hg
    exact map_ne h.jo hb hS
theorem Rdj.turnA (h : Rdj w base r mj ma nj na x7 x8 tv qv L Dj Da) (ht : w.mapTurned w' ma) {na' : Nat} {Da' : DataW Unit} (hm : w'.ownsMap Ybaf.prog 9 aR ma na' Da') : Rdj w' base r mj ma nj na' x7 x8 tv qv L Dj Da' := by
  have f := turn_fr ht
  obtain ⟨xt, hxt⟩ := h.t
  refine ⟨h.blk.fr f (map_ne h.aw h.blk), row_fr h.q f (fun g hg hS => ?_), ⟨xt, row_fr hxt f (fun g hg hS => ?_)⟩, map_fr h.jo f h.ne, hm, Nat.le_trans h.lo f.size, h.hr, h.hj, h.ha, h.ne⟩
  · obtain ⟨_, _, _, _, hb, _⟩ := row_blk h.q hg
    exact map_ne h.aw hb hS
  · obtain ⟨_, _, _, _, hb, _⟩ := row_blk hxt hg
    exact map_ne h.aw hb hS
theorem Rdj.ssJ (h : Rdj w base r mj ma nj na x7 x8 tv qv L Dj Da) (ht : w.mapTurned w' mj) : Fr (SS base qv w) w w' := (turn_fr ht).mono (fun k _ e => by
  subst e; obtain ⟨es, cl, hm, _⟩ := h.jo; exact ⟨h.hj, Or.inl ⟨es, cl, hm⟩⟩)
theorem Rdj.ssA (h : Rdj w base r mj ma nj na x7 x8 tv qv L Dj Da) (ht : w.mapTurned w' ma) : Fr (SS base qv w) w w' := (turn_fr ht).mono (fun k _ e => by
  subst e; obtain ⟨es, cl, hm, _⟩ := h.aw; exact ⟨h.ha, Or.inl ⟨es, cl, hm⟩⟩)
theorem Rdj.event (h : Rdj w base r mj ma nj na x7 x8 tv qv L Dj Da) {tv' : Value} {xt' : List UInt8} (hb : Blk w' r #[.string ⟨#[]⟩, .pointer none, tv', qv, .int .i64 0, .int .i64 0, .nilIface, x7, x8, .map (some mj), .map (some ma)] 40) (ht : BRow w' base tv' xt') (f : Fr (fun j => j = r ∨ S5 base w j) w w') :
    Rdj w' base r mj ma nj na x7 x8 tv' qv L Dj Da := by
  have key : ∀ {k : TypeId} {R : Value → Option (DataW Unit × List MemPlace)} {b n : Nat} {D : DataW Unit}, w.ownsMap Ybaf.prog k R b n D → ¬ (b = r ∨ S5 base w b) := by
    intro k R b n D hm hS
    rcases hS with hS | ⟨_, c, hS⟩
    · exact map_ne hm h.blk hS.symm
    · exact map_ne hm hS rfl
  refine ⟨hb, row_fr h.q f (fun g hg hS => ?_), ⟨xt', ht⟩, map_fr h.jo f (key h.jo), map_fr h.aw f (key h.aw), Nat.le_trans h.lo f.size, h.hr, h.hj, h.ha, h.ne⟩
  rcases hS with hS | ⟨_, c, hS⟩
  · exact row_ne h.q h.blk (by decide) (by rw [hg, hS])
  · exact row_ne h.q hS (by decide) hg
theorem Rdj.ssE (h : Rdj w base r mj ma nj na x7 x8 tv qv L Dj Da) (f : Fr (fun j => j = r ∨ S5 base w j) w w') : Fr (SS base qv w) w w' := f.mono (fun k _ hS => by
  rcases hS with rfl | ⟨hb, c, hS⟩
  · exact ⟨h.hr, Or.inr (Or.inl ⟨_, _, h.blk, Or.inl rfl⟩)⟩
  · exact ⟨hb, Or.inr (Or.inl ⟨_, _, hS, Or.inr (Or.inl rfl)⟩)⟩)
theorem Rdj.push (h : Rdj w base r mj ma nj na x7 x8 tv qv L Dj Da) {g cap : Nat} {it : It}
    (hb : Blk w' r #[.string ⟨#[]⟩, .pointer none, tv, .slice (some ⟨g, 0, none⟩) (L ++ [it]).length cap, .int .i64 0, .int .i64 0, .nilIface, x7, x8, .map (some mj), .map (some ma)] 40) (hq : ItRow w' base g cap (L ++ [it])) (f : Fr (fun j => j = r ∨ qv.ownBlock = some j) w w') :
    Rdj w' base r mj ma nj na x7 x8 tv (.slice (some ⟨g, 0, none⟩) (L ++ [it]).length cap) (L ++ [it]) Dj Da := by
  have key : ∀ {k : TypeId} {R : Value → Option (DataW Unit × List MemPlace)} {b n : Nat} {D : DataW Unit}, w.ownsMap Ybaf.prog k R b n D → ¬ (b = r ∨ qv.ownBlock = some b) := by
    intro k R b n D hm hS
    rcases hS with hS | hS
    · exact map_ne hm h.blk hS.symm
    · obtain ⟨_, _, _, _, hb', _⟩ := row_blk h.q hS
      exact map_ne hm hb' rfl
  obtain ⟨xt, ht⟩ := h.t
  refine ⟨hb, hq, ⟨xt, row_fr ht f (fun g hg hS => ?_)⟩, map_fr h.jo f (key h.jo), map_fr h.aw f (key h.aw), Nat.le_trans h.lo f.size, h.hr, h.hj, h.ha, h.ne⟩
  rcases hS with hS | hS
  · exact row_ne ht h.blk (by decide) (by rw [hg, hS])
  · exact row_ne_row ht h.q (by decide) hg hS
theorem Rdj.ssP (h : Rdj w base r mj ma nj na x7 x8 tv qv L Dj Da) (f : Fr (fun j => j = r ∨ qv.ownBlock = some j) w w') : Fr (SS base qv w) w w' := f.mono (fun k _ hS => by
  rcases hS with rfl | hS
  · exact ⟨h.hr, Or.inr (Or.inl ⟨_, _, h.blk, Or.inl rfl⟩)⟩
  · exact ⟨row_base h.q hS, Or.inr (Or.inr hS)⟩)
/-- an item of the queue is written over -/
theorem Rdj.set {q cap m : Nat} {L' : List It} (h : Rdj w base r mj ma nj na x7 x8 tv (.slice (some ⟨q, 0, none⟩) m cap) L Dj Da) (hm : m = L.length) (hl : L'.length = L.length) (hq : ItRow w' base q cap L') (f : Fr (fun g => g = q) w w') : Rdj w' base r mj ma nj na x7 x8 tv (.slice (some ⟨q, 0, none⟩) m cap) L' Dj Da := by
  subst hm
  obtain ⟨_, _, _, _, hb, _⟩ := row_blk h.q (g := q) rfl
  obtain ⟨xt, ht⟩ := h.t
  unfold ItRow at hq
  rw [hl] at hq
  refine ⟨h.blk.fr f (h.blk.ne hb (by decide)), by rw [hl]; exact hq, ⟨xt, row_fr ht f (fun g hg hS => ?_)⟩, map_fr h.jo f (fun e => map_ne h.jo hb e.symm), map_fr h.aw f (fun e => map_ne h.aw hb e.symm), Nat.le_trans h.lo f.size, h.hr, h.hj, h.ha, h.ne⟩
  subst hS
  exact row_ne_row ht h.q (by decide) hg rfl
theorem Rdj.ssQ {q cap m : Nat} (h : Rdj w base r mj ma nj na x7 x8 tv (.slice (some ⟨q, 0, none⟩) m cap) L Dj Da) (hm : m = L.length) (f : Fr (fun g => g = q) w w') : Fr (SS base (.slice (some ⟨q, 0, none⟩) m cap) w) w w' := f.mono (fun k _ e => by
  subst hm
  subst e; exact ⟨row_base h.q rfl, Or.inr (Or.inr rfl)⟩)
/-- a pending join is written to -/
theorem Rdj.pj {j : Nat} {c : Array Value} (h : Rdj w base r mj ma nj na x7 x8 tv qv L Dj Da) (hp : Blk w j c 43) (f : Fr (fun g => g = j) w w') : Rdj w' base r mj ma nj na x7 x8 tv qv L Dj Da :=
  h.fr f (fun e => h.blk.ne hp (by decide) e) (fun g hg e => row_ne h.q hp (by decide) (by rw [hg, e])) (fun g c hb e => hb.ne hp (by decide) e) (fun e => map_ne h.jo hp e.symm) (fun e => map_ne h.aw hp e.symm)
end
theorem ss43 {w w' : World} {base j : Nat} {qv : Value} {c : Array Value} (hb : base ≤ j) (hp : Blk w j c 43) (f : Fr (fun g => g = j) w w') : Fr (SS base qv w) w w' := f.mono (fun k _ e => by
  subst e; exact ⟨hb, Or.inr (Or.inl ⟨_, _, hp, Or.inr (Or.inr (Or.inl rfl))⟩)⟩)
end Go.Proofs.YbulkawpsFmt
