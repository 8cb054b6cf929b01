import Derived.Test.YbulkawpsFmtRanSome
/- What 'place' holds on to while a line is placed; steps. -/
namespace Go.Proofs.YbulkawpsFmt
open Go.RowKit
set_option linter.unusedVariables false
set_option maxRecDepth 100000
structure Ln (w0 w : World) (base lo g : Nat) (qv0 : Value) (cs : Array Value) (tv ov lv : Value) (tB oB lB : List UInt8) : Prop where
  nm : Names w
  bx : Blk w g cs 59
  t : BySl w lo tv tB
  o : BySl w lo ov oB
  l : BySl w lo lv lB
  f : Fr (SS base qv0 w0) w0 w
section
variable {w0 w w' : World} {base lo g : Nat} {qv0 tv ov lv : Value} {cs : Array Value} {tB oB lB : List UInt8}
theorem Ln.step {qv : Value} (h : Ln w0 w base lo g qv0 cs tv ov lv tB oB lB) (f : Fr (SS base qv w) w w') (hq : ∀ g, qv.ownBlock = some g → qv0.ownBlock = some g ∨ w0.heap.size ≤ g) (hqb : ∀ g, qv.ownBlock = some g → ∃ c, Blk w g c 30) (hb : 0 < base) : Ln w0 w' base lo g qv0 cs tv ov lv tB oB lB := by
  have hqb' : ∀ g, qv.ownBlock = some g → ∃ c e, Blk w g c e := fun g hg => by obtain ⟨c, h⟩ := hqb g hg; exact ⟨c, _, h⟩
  refine ⟨h.nm.ss f hb, h.bx.ss f (by decide) (by decide) (by decide) (by decide) (fun hg => ?_), h.t.ss f hqb', h.o.ss f hqb', h.l.ss f hqb', SS.trans h.f f hq⟩
  obtain ⟨c, hb'⟩ := hqb _ hg
  exact h.bx.ne hb' (by decide) rfl
theorem Ln.below (h : Ln w0 w base lo g qv0 cs tv ov lv tB oB lB) (hb : Below w.heap.size w w') : Ln w0 w' base lo g qv0 cs tv ov lv tB oB lB :=
  ⟨h.nm.below hb, h.bx.below hb h.bx.lt, h.t.below hb, h.o.below hb, h.l.below hb, h.f.trans (Fr.of_grown hb) (fun _ _ h => h.elim)⟩
end
section
variable {w w' : World} {base r mj ma nj na : Nat} {x7 x8 tv qv : Value} {L : List It} {Dj Da : DataW Unit}
theorem Rdj.q30 (h : Rdj w base r mj ma nj na x7 x8 tv qv L Dj Da) : ∀ g, qv.ownBlock = some g → ∃ c, Blk w g c 30 := fun g hg => by
  obtain ⟨_, c, _, _, hb, _⟩ := row_blk h.q hg
  exact ⟨c, hb⟩
theorem Rdj.ssA' (h : Rdj w base r mj ma nj na x7 x8 tv qv L Dj Da) (f : Fr (fun i => i = ma) w w') : Fr (SS base qv w) w w' := f.mono (fun k _ e => by
  subst e; obtain ⟨es, cl, hm, _⟩ := h.aw; exact ⟨h.ha, Or.inl ⟨es, cl, hm⟩⟩)
/-- a pending join, and its row, through the steps -/
theorem Rdj.pjE {j : Nat} {c : Array Value} {e : TypeId} (h : Rdj w base r mj ma nj na x7 x8 tv qv L Dj Da) (hp : Blk w j c e) (he : e = 43 ∨ e = 41) (f : Fr (fun j => j = r ∨ S5 base w j) w w') : Blk w' j c e := hp.fr f (fun hS => by
  rcases hS with hS | hS
  · exact hp.ne h.blk (by rcases he with rfl | rfl <;> decide) hS
  · exact hp.s5 (by rcases he with rfl | rfl <;> decide) hS)
theorem Rdj.pjP {j : Nat} {c : Array Value} {e : TypeId} (h : Rdj w base r mj ma nj na x7 x8 tv qv L Dj Da) (hp : Blk w j c e) (he : e = 43 ∨ e = 41) (f : Fr (fun j => j = r ∨ qv.ownBlock = some j) w w') : Blk w' j c e := hp.fr f (fun hS => by
  rcases hS with hS | hS
  · exact hp.ne h.blk (by rcases he with rfl | rfl <;> decide) hS
  · exact row_ne h.q hp (by rcases he with rfl | rfl <;> decide) hS)
end
theorem row_turn {w w' : World} {base b n k : Nat} {e : TypeId} {v : Value} {size : Nat} {xs : List Value} {P : Program} {kt : TypeId} {R : Value → Option (DataW Unit × List MemPlace)} {D : DataW Unit} (h : w.ownsRow base e size v n xs) (hm : w.ownsMap P kt R b k D) (ht : w.mapTurned w' b) : w'.ownsRow base e size v n xs :=
  row_fr h (turn_fr ht) (fun g hg hS => by
    obtain ⟨_, _, _, _, hb, _⟩ := row_blk h hg
    exact map_ne hm hb hS)
end Go.Proofs.YbulkawpsFmt
