import Derived.Test.YbulkawpeHeld
namespace Go.Proofs.Ybulkawpe
open Go.RowKit
set_option linter.unusedVariables false
set_option maxRecDepth 100000
theorem info36 : (Yba.prog.info? 36).map (fun i => (i.zero, i.size, i.bytes)) = some (some (.agg #[.int .u64 0, .int .i64 0, .pointer none]), 3, 24) := by kernel_rfl
theorem info40 : (Yba.prog.info? 40).map (fun i => (i.zero, i.size, i.bytes)) = some (some (.pointer none), 1, 8) := by kernel_rfl
theorem info67 : (Yba.prog.info? 67).map (fun i => (i.zero, i.size, i.bytes)) = some (some (.agg #[.int .u64 0, .int .u64 0, .pointer none, .int .u16 0, .slice none 0 0, .bool false, .int .u64 0, .int .i64 0, .pointer none]), 9, 88) := by kernel_rfl
theorem info72 : (Yba.prog.info? 72).map (fun i => (i.zero, i.size, i.bytes)) = some (some (.agg #[.int .u32 0, .int .u32 0, .int .u32 0, .int .u64 0, .int .u64 0, .pointer none, .int .u64 0, .int .i64 0, .pointer none]), 9, 64) := by kernel_rfl
/-! ### append of several elements -/
section
variable {P : Program} {W : World} {o : Oper} {a : Act} {Q : Exit → Act → World → Prop}
theorem wpList_app2 {ops : Array Oper} {rest : List Oper} (hgd : o.guard = none) (s x : Operand) (t : TypeId)
    (ho : o.op = .call { callee := .builtin .append, args := #[s, x], argTypes := #[t, t] })
    (e : TypeId) (z : Value) (size bytes : Nat) (ht : P.underlying t = some (.slice e)) (hinfo : (P.info? e).map (fun i => (i.zero, i.size, i.bytes)) = some (some z, size, bytes)) (hzs : z.cells.size = size) (hsz : 0 < size)
    (base R : Nat) (v : Value) (n : Nat) (xs : List Value) (cs : Array Value) (hs : a.eval s = v) (hx : a.eval x = .slice (some ⟨R, 0, none⟩) 2 2)
    (hown : W.ownsRow base e size v n xs) (hR : Blk W R cs e) (hcs : cs.size = 2 * size) (h1 : ∀ u ∈ cs.toList, u.oneCell' = true) (hn : n < 1000000) (hby : bytes ≤ 1000000) (hbase : base ≤ W.heap.size)
    (h : ∀ g cap w', w'.ownsRow base e size (.slice (some ⟨g, 0, none⟩) (n + 2) cap) (n + 2) (xs ++ cs.toList) → Fr (fun j => v.ownBlock = some j) W w' → (v.ownBlock = some g ∨ g = W.heap.size) → g < w'.heap.size → wpList P ops Q rest (a.put o.dst (.slice (some ⟨g, 0, none⟩) (n + 2) cap)) w') : wpList P ops Q (o :: rest) a W := by
  refine wpList_plain hgd fun _ hK => ?_
  obtain ⟨i, hi, hz, hsi, hbi⟩ := info_parts hinfo
  have hb : (n + 2) * bytes ≤ 140737488355328 := Nat.le_trans (Nat.mul_le_mul (show n + 2 ≤ 1000001 by omega) hby) (by decide)
  refine wp_append_lies W s x t ho base e i z size bytes ht hi hz hsi hbi hzs hsz v n xs hs hown ⟨R, 0, none⟩ 2 2 cs.toList hx (by simp [hcs]) (World.news_of_block hR) h1 (by decide) (by unfold maxLen; omega) hb hbase _ rfl ?_
  intro g cap w' r1 r2 r3 r4
  exact hK _ _ (h g cap w' r1 ((Fr.refl _ W).grown r2 (fun k hk _ => hk)) r3 r4)
end
/-! ### rows of times, of replies, of peers -/
def timeC (T : Int) : List Value := [.int .u64 (tN T), .int .i64 (tS T), .pointer none]
def timeF : List Int → List Value
  | [] => []
  | T :: l => timeC T ++ timeF l
theorem timeF_get (R : List Int) (k i : Nat) (T : Int) (h : R[k]? = some T) (hi : i < 3) : (timeF R)[k * 3 + i]? = (timeC T)[i]? := by
  induction R generalizing k with
  | nil => simp at h
  | cons U l ih =>
    cases k with
    | zero =>
      simp at h; subst h
      rw [timeF, List.getElem?_append_left (by simp [timeC]; omega)]; simp
    | succ k =>
      rw [List.getElem?_cons_succ] at h
      rw [timeF, List.getElem?_append_right (by simp [timeC]; omega), ← ih k h]
      congr 1
      simp [timeC]; omega
theorem timeF_app (L M : List Int) : timeF (L ++ M) = timeF L ++ timeF M := by
  induction L with
  | nil => rfl
  | cons T l ih => rw [List.cons_append, timeF, timeF, ih, List.append_assoc]
theorem repF_app (L M : List Int) : repF (L ++ M) = repF L ++ repF M := by
  induction L with
  | nil => rfl
  | cons T l ih => rw [List.cons_append, repF, repF, ih, List.append_assoc]
theorem peerF_app (L M : List Int) : peerF (L ++ M) = peerF L ++ peerF M := by
  induction L with
  | nil => rfl
  | cons T l ih => rw [List.cons_append, peerF, peerF, ih, List.append_assoc]
theorem take_more {α : Type} {l : List α} {j : Nat} {T : α} (h : l[j]? = some T) : l.take (j + 1) = l.take j ++ [T] := by
  obtain ⟨hj, rfl⟩ := List.getElem?_eq_some_iff.1 h
  exact List.take_succ_eq_append_getElem hj
/-- a slice literal just laid -/
theorem row_new {w : World} {base e size n R : Nat} {cs : Array Value} (h : Blk w R cs e) (hb : base ≤ R) (hn : n ≤ maxLen) (hc : cs.size = n * size) : w.ownsRow base e size (.slice (some ⟨R, 0, none⟩) n n) n cs.toList :=
  ⟨by simp [hc], Or.inr ⟨R, n, cs, rfl, hb, h, Nat.le_refl _, hn, hc, by rw [← hc, ← Array.length_toList, List.take_length]⟩⟩
/-! ### the candidates, told against the world w0 and the row cv0 at a round's start -/
structure Cand (w0 : World) (cv0 : Value) (base : Nat) (wx : World) (cv : Value) (L : List Int) : Prop where
  row : wx.ownsRow base 36 3 cv L.length (timeF L)
  old : ∀ g, cv.ownBlock = some g → cv0.ownBlock = some g ∨ w0.heap.size ≤ g
  fr : Fr (fun g => cv0.ownBlock = some g) w0 wx
theorem Cand.start {w0 : World} {cv0 : Value} {base : Nat} {L : List Int} (h : w0.ownsRow base 36 3 cv0 L.length (timeF L)) : Cand w0 cv0 base w0 cv0 L := ⟨h, fun g hg => Or.inl hg, Fr.refl _ _⟩
theorem Cand.other {w0 : World} {cv0 : Value} {base : Nat} {wx w' : World} {cv : Value} {L : List Int} {S : Nat → Prop} (h : Cand w0 cv0 base wx cv L) (f : Fr S wx w') (hn : ∀ g, cv.ownBlock = some g → ¬ S g) (hs : ∀ k, S k → w0.heap.size ≤ k) : Cand w0 cv0 base w' cv L :=
  ⟨row_fr h.row f hn, h.old, h.fr.trans f (fun k hk hS => absurd (hs k hS) (by omega))⟩
theorem Cand.quiet {w0 : World} {cv0 : Value} {base : Nat} {wx w' : World} {cv : Value} {L : List Int} (h : Cand w0 cv0 base wx cv L) (hb : Below wx.heap.size wx w') : Cand w0 cv0 base w' cv L :=
  h.other (Fr.of_grown hb) (fun _ _ h => h) (fun _ h => h.elim)
theorem Cand.alloc {w0 : World} {cv0 : Value} {base : Nat} {wx : World} {cv : Value} {L : List Int} (h : Cand w0 cv0 base wx cv L) (o : Obj) : Cand w0 cv0 base (wx.alloc o) cv L :=
  h.other (S := fun _ => False) ((Fr.refl _ _).alloc o) (fun _ _ h => h) (fun _ h => h.elim)
theorem Cand.drew {w0 : World} {cv0 : Value} {base : Nat} {wx : World} {cv : Value} {L : List Int} (h : Cand w0 cv0 base wx cv L) : Cand w0 cv0 base wx.drew cv L := ⟨h.row, h.old, h.fr.drew⟩
theorem Cand.app {w0 : World} {cv0 : Value} {base : Nat} {wx w' : World} {cv : Value} {L M : List Int} {g cap n : Nat} {cs : List Value} (h : Cand w0 cv0 base wx cv L) (hr : w'.ownsRow base 36 3 (.slice (some ⟨g, 0, none⟩) n cap) n (timeF L ++ cs)) (hn : n = (L ++ M).length) (hcs : cs = timeF M)
    (f : Fr (fun j => cv.ownBlock = some j) wx w') (hg : cv.ownBlock = some g ∨ g = wx.heap.size) : Cand w0 cv0 base w' (.slice (some ⟨g, 0, none⟩) n cap) (L ++ M) := by
  subst hn hcs
  have hsz := h.fr.size
  refine ⟨by rw [timeF_app]; exact hr, ?_, h.fr.trans f (fun k hk hS => ?_)⟩
  · intro g' hg'
    simp [Value.ownBlock] at hg'
    subst hg'
    rcases hg with hg | hg
    · exact h.old _ hg
    · right; omega
  · rcases h.old k hS with hc | hc
    · exact hc
    · omega
theorem EpAt.fr {S : Nat → Prop} {w w' : World} {base E : Nat} {d : EpD} (h : EpAt w base E d) (f : Fr S w w') (hS : ∀ g, S g → ∃ c e, Blk w g c e ∧ (e = 36 ∨ e = 40)) : EpAt w' base E d := by
  have key : ∀ g c e, Blk w g c e → e ≠ 36 → e ≠ 40 → ¬ S g := by
    intro g c e hb h1 h2 hs
    obtain ⟨c', e', hb', he⟩ := hS g hs
    rcases he with he | he
    · exact hb.ne hb' (by rw [he]; exact h1) rfl
    · exact hb.ne hb' (by rw [he]; exact h2) rfl
  obtain ⟨id, TR, pv, nv, wv, lv, h1, h2, h3, h4, h5⟩ := h
  refine ⟨id, TR, pv, nv, wv, lv, h1.fr f (key _ _ _ h1 (by decide) (by decide)), h2.fr f (key _ _ _ h2 (by decide) (by decide)), row_fr h3 f ?_, row_fr h4 f ?_, h5⟩
  · intro g hg
    obtain ⟨_, _, _, _, hb, _⟩ := row_blk h3 hg
    exact key _ _ _ hb (by decide) (by decide)
  · intro g hg
    obtain ⟨_, _, _, _, hb, _⟩ := row_blk h4 hg
    exact key _ _ _ hb (by decide) (by decide)
theorem RecAt.fr {S : Nat → Prop} {w w' : World} {b : Nat} {u : Int} (h : RecAt w b u) (f : Fr S w w') (hS : ¬ S b) : RecAt w' b u :=
  ⟨f.cell_some h.1 hS, f.cell_some h.2.1 hS, f.cell_some h.2.2 hS⟩
/-! ### the arguments' slices of integers -/
def ArgInts (w : World) (v : Value) (xs : List Int) : Prop := ∃ (a : Option Addr) (c : Nat), v = .slice a xs.length c ∧ xs.length ≤ maxLen ∧ (∀ x ∈ xs, I64 x) ∧ ∀ (i : Nat) (x : Int), xs[i]? = some x → ∃ b o, a = some ⟨b, o, none⟩ ∧ w.cell? ⟨b, o + i, none⟩ = some (.int .i64 x)
/-! ### the endpoint under way: the blocks and rows of one round -/
structure Rd (w wr : World) (cv0 : Value) (d : EpD) (ra pa : Option Addr) (rc pc E TR : Nat) (id : Int) (nv lv : Value) (wx : World) (cv pv wv : Value) (L : List Int) (j1 j2 : Nat) : Prop where
  cd : Cand wr cv0 w.heap.size wx cv L
  e : Blk wx E #[.int .u32 id, .pointer (some ⟨TR, 0, none⟩), .int .u64 (tN d.greet), .int .i64 (tS d.greet), .pointer none, .int .u64 (tN d.keep), .int .i64 (tS d.keep), .pointer none, pv, nv, wv, lv] 53
  t : Blk wx TR #[.int .i64 0, .int .i64 0, .int .i64 0, .pointer none, .int .i64 0, .int .u64 0, .int .i64 0, .pointer none, .int .u64 0, .int .i64 0, .pointer none, .int .i64 0, .bool false] 46
  b : Blk wx wr.heap.size #[.int .i64 d.keep, .int .i64 d.greet, .slice ra d.reps.length rc, .slice pa d.peers.length pc] 25
  wo : wx.ownsRow w.heap.size 67 9 wv j1 (repF (d.reps.take j1))
  po : wx.ownsRow w.heap.size 72 9 pv j2 (peerF (d.peers.take j2))
  wn : ∀ g, wv.ownBlock = some g → wr.heap.size ≤ g
  pn : ∀ g, pv.ownBlock = some g → wr.heap.size ≤ g
  e1 : wr.heap.size ≤ E
  t1 : wr.heap.size ≤ TR
section
variable {w wr : World} {cv0 : Value} {d : EpD} {ra pa : Option Addr} {rc pc E TR : Nat} {id : Int} {nv lv : Value} {wx w' : World} {cv pv wv : Value} {L : List Int} {j1 j2 : Nat}
theorem Rd.quiet (h : Rd w wr cv0 d ra pa rc pc E TR id nv lv wx cv pv wv L j1 j2) (hb : Below wx.heap.size wx w') : Rd w wr cv0 d ra pa rc pc E TR id nv lv w' cv pv wv L j1 j2 :=
  ⟨h.cd.quiet hb, h.e.below hb h.e.lt, h.t.below hb h.t.lt, h.b.below hb h.b.lt, row_fr h.wo (Fr.of_grown hb) (fun _ _ h => h), row_fr h.po (Fr.of_grown hb) (fun _ _ h => h), h.wn, h.pn, h.e1, h.t1⟩
theorem Rd.alloc (h : Rd w wr cv0 d ra pa rc pc E TR id nv lv wx cv pv wv L j1 j2) (o : Obj) : Rd w wr cv0 d ra pa rc pc E TR id nv lv (wx.alloc o) cv pv wv L j1 j2 :=
  h.quiet ((Below.refl _ wx).alloc (Nat.le_refl _) o)
theorem Rd.drew (h : Rd w wr cv0 d ra pa rc pc E TR id nv lv wx cv pv wv L j1 j2) : Rd w wr cv0 d ra pa rc pc E TR id nv lv wx.drew cv pv wv L j1 j2 :=
  h.quiet (Below.refl _ wx).drew
theorem Rd.low {n : Nat} {xs : List Value} (h : Rd w wr cv0 d ra pa rc pc E TR id nv lv wx cv pv wv L j1 j2) (hb : Below w.heap.size w wr) (h0 : wr.ownsRow w.heap.size 36 3 cv0 n xs) : Below w.heap.size w wx :=
  hb.trans (h.cd.fr.below hb.size (fun k hk => row_base h0 hk))
/-- a candidate more -/
theorem Rd.app {g cap n : Nat} {cs : List Value} {M : List Int} (h : Rd w wr cv0 d ra pa rc pc E TR id nv lv wx cv pv wv L j1 j2) (hr : w'.ownsRow w.heap.size 36 3 (.slice (some ⟨g, 0, none⟩) n cap) n (timeF L ++ cs)) (hn : n = (L ++ M).length) (hcs : cs = timeF M)
    (f : Fr (fun j => cv.ownBlock = some j) wx w') (hg : cv.ownBlock = some g ∨ g = wx.heap.size) : Rd w wr cv0 d ra pa rc pc E TR id nv lv w' (.slice (some ⟨g, 0, none⟩) n cap) pv wv (L ++ M) j1 j2 :=
  ⟨h.cd.app hr hn hcs f hg, h.e.fr f (row_ne h.cd.row h.e (by decide)), h.t.fr f (row_ne h.cd.row h.t (by decide)), h.b.fr f (row_ne h.cd.row h.b (by decide)),
    row_fr h.wo f (fun g' hg' => row_ne_row h.wo h.cd.row (by decide) hg'), row_fr h.po f (fun g' hg' => row_ne_row h.po h.cd.row (by decide) hg'), h.wn, h.pn, h.e1, h.t1⟩
/-- a reply more -/
theorem Rd.wapp {g cap : Nat} {T : Int} (h : Rd w wr cv0 d ra pa rc pc E TR id nv lv wx cv pv wv L j1 j2) (hT : d.reps[j1]? = some T) (hr : w'.ownsRow w.heap.size 67 9 (.slice (some ⟨g, 0, none⟩) (j1 + 1) cap) (j1 + 1) (repF (d.reps.take j1) ++ repC T))
    (f : Fr (fun j => wv.ownBlock = some j) wx w') (hg : wv.ownBlock = some g ∨ g = wx.heap.size) :
    Rd w wr cv0 d ra pa rc pc E TR id nv lv (w'.setCell ⟨E, 10, none⟩ (.slice (some ⟨g, 0, none⟩) (j1 + 1) cap)) cv pv (.slice (some ⟨g, 0, none⟩) (j1 + 1) cap) L (j1 + 1) j2 := by
  have hsz := h.cd.fr.size
  have he := h.e.fr f (row_ne h.wo h.e (by decide))
  have ht := h.t.fr f (row_ne h.wo h.t (by decide))
  have hb := h.b.fr f (row_ne h.wo h.b (by decide))
  have hc := h.cd.other f (fun g' hg' => row_ne_row h.cd.row h.wo (by decide) hg') h.wn
  have hp := row_fr h.po f (fun g' hg' => row_ne_row h.po h.wo (by decide) hg')
  have fE : Fr (fun j => j = E) w' (w'.setCell ⟨E, 10, none⟩ (.slice (some ⟨g, 0, none⟩) (j1 + 1) cap)) := Fr.setCell (S := fun j => j = E) (Fr.refl _ w') (fun _ => rfl) _
  refine ⟨hc.other fE (fun g' hg' hx => row_ne hc.row he (by decide) (by rw [hg', hx])) (fun k hk => hk ▸ h.e1), he.set 10 _, ht.fr fE (ht.ne he (by decide)), hb.fr fE (hb.ne he (by decide)), ?_, row_fr hp fE (fun g' hg' hx => row_ne hp he (by decide) (by rw [hg', hx])), ?_, h.pn, h.e1, h.t1⟩
  · rw [take_more hT, repF_app]
    refine row_fr (v := .slice (some ⟨g, 0, none⟩) (j1 + 1) cap) ?_ fE (fun g' hg' hx => row_ne hr he (by decide) (by rw [hg', hx]))
    simpa [repF] using hr
  · intro g' hg'
    simp [Value.ownBlock] at hg'
    subst hg'
    rcases hg with hg | hg
    · exact h.wn _ hg
    · omega
/-- a peer more -/
theorem Rd.papp {g cap : Nat} {T : Int} (h : Rd w wr cv0 d ra pa rc pc E TR id nv lv wx cv pv wv L j1 j2) (hT : d.peers[j2]? = some T) (hr : w'.ownsRow w.heap.size 72 9 (.slice (some ⟨g, 0, none⟩) (j2 + 1) cap) (j2 + 1) (peerF (d.peers.take j2) ++ peerC T))
    (f : Fr (fun j => pv.ownBlock = some j) wx w') (hg : pv.ownBlock = some g ∨ g = wx.heap.size) :
    Rd w wr cv0 d ra pa rc pc E TR id nv lv (w'.setCell ⟨E, 8, none⟩ (.slice (some ⟨g, 0, none⟩) (j2 + 1) cap)) cv (.slice (some ⟨g, 0, none⟩) (j2 + 1) cap) wv L j1 (j2 + 1) := by
  have hsz := h.cd.fr.size
  have he := h.e.fr f (row_ne h.po h.e (by decide))
  have ht := h.t.fr f (row_ne h.po h.t (by decide))
  have hb := h.b.fr f (row_ne h.po h.b (by decide))
  have hc := h.cd.other f (fun g' hg' => row_ne_row h.cd.row h.po (by decide) hg') h.pn
  have hw := row_fr h.wo f (fun g' hg' => row_ne_row h.wo h.po (by decide) hg')
  have fE : Fr (fun j => j = E) w' (w'.setCell ⟨E, 8, none⟩ (.slice (some ⟨g, 0, none⟩) (j2 + 1) cap)) := Fr.setCell (S := fun j => j = E) (Fr.refl _ w') (fun _ => rfl) _
  refine ⟨hc.other fE (fun g' hg' hx => row_ne hc.row he (by decide) (by rw [hg', hx])) (fun k hk => hk ▸ h.e1), he.set 8 _, ht.fr fE (ht.ne he (by decide)), hb.fr fE (hb.ne he (by decide)), row_fr hw fE (fun g' hg' hx => row_ne hw he (by decide) (by rw [hg', hx])), ?_, h.wn, ?_, h.e1, h.t1⟩
  · rw [take_more hT, peerF_app]
    refine row_fr (v := .slice (some ⟨g, 0, none⟩) (j2 + 1) cap) ?_ fE (fun g' hg' hx => row_ne hr he (by decide) (by rw [hg', hx]))
    simpa [peerF] using hr
  · intro g' hg'
    simp [Value.ownBlock] at hg'
    subst hg'
    rcases hg with hg | hg
    · exact h.pn _ hg
    · omega
end
end Go.Proofs.Ybulkawpe
