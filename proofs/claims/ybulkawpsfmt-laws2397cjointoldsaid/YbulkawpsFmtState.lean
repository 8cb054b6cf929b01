import Derived.Test.YbulkawpsFmtPlace3
/- The law's state: the reader, the wanted items, the two tables. -/
namespace Go.Proofs.YbulkawpsFmt
open Go.RowKit
set_option linter.unusedVariables false
set_option maxRecDepth 100000
def thS : List ByteArray := [⟨#[49]⟩, ⟨#[50]⟩, ⟨#[51]⟩]
def vaS : List ByteArray := [⟨#[120]⟩, ⟨#[121]⟩, ⟨#[122]⟩]
def keyS (t x : ByteArray) : ByteArray := ⟨(t.data.toList ++ 44 :: x.data.toList).toArray⟩
theorem keyS_list (t x : ByteArray) : (keyS t x).data.toList = t.data.toList ++ 44 :: x.data.toList := by simp [keyS]
theorem th_cases {a : Nat} {t : ByteArray} (h : thS[a]? = some t) : (a = 0 ∧ t = ⟨#[49]⟩) ∨ (a = 1 ∧ t = ⟨#[50]⟩) ∨ (a = 2 ∧ t = ⟨#[51]⟩) := by
  have : a < 3 := (List.getElem?_eq_some_iff.1 h).1
  have : a = 0 ∨ a = 1 ∨ a = 2 := by omega
  rcases this with rfl | rfl | rfl <;> (simp [thS] at h; subst h; simp)
theorem va_cases {a : Nat} {t : ByteArray} (h : vaS[a]? = some t) : (a = 0 ∧ t = ⟨#[120]⟩) ∨ (a = 1 ∧ t = ⟨#[121]⟩) ∨ (a = 2 ∧ t = ⟨#[122]⟩) := by
  have : a < 3 := (List.getElem?_eq_some_iff.1 h).1
  have : a = 0 ∨ a = 1 ∨ a = 2 := by omega
  rcases this with rfl | rfl | rfl <;> (simp [vaS] at h; subst h; simp)
theorem th_size {a : Nat} {t : ByteArray} (h : thS[a]? = some t) : t.size = 1 := by
  rcases th_cases h with ⟨_, rfl⟩ | ⟨_, rfl⟩ | ⟨_, rfl⟩ <;> rfl
theorem va_size {a : Nat} {t : ByteArray} (h : vaS[a]? = some t) : t.size = 1 := by
  rcases va_cases h with ⟨_, rfl⟩ | ⟨_, rfl⟩ | ⟨_, rfl⟩ <;> rfl
theorem th_get (a : Nat) (h : a < 3) : ∃ t, thS[a]? = some t := ⟨thS[a]'h, List.getElem?_eq_getElem h⟩
theorem va_get (a : Nat) (h : a < 3) : ∃ t, vaS[a]? = some t := ⟨vaS[a]'h, List.getElem?_eq_getElem h⟩
/-- a table of three by three bools, as its nine cells -/
def bA (M : Nat → Bool) : Array Value := #[.bool (M 0), .bool (M 1), .bool (M 2), .bool (M 3), .bool (M 4), .bool (M 5), .bool (M 6), .bool (M 7), .bool (M 8)]
def upd (M : Nat → Bool) (j : Nat) (b : Bool) : Nat → Bool := fun i => if i = j then b else M i
theorem nine {j : Nat} (h : j < 9) : j = 0 ∨ j = 1 ∨ j = 2 ∨ j = 3 ∨ j = 4 ∨ j = 5 ∨ j = 6 ∨ j = 7 ∨ j = 8 := by omega
theorem bA_get (M : Nat → Bool) {j : Nat} (h : j < 9) : (bA M)[j]? = some (.bool (M j)) := by
  rcases nine h with rfl | rfl | rfl | rfl | rfl | rfl | rfl | rfl | rfl <;> rfl
theorem bA_set (M : Nat → Bool) {j : Nat} (h : j < 9) (b : Bool) : (bA M).setIfInBounds j (.bool b) = bA (upd M j b) := by
  rcases nine h with rfl | rfl | rfl | rfl | rfl | rfl | rfl | rfl | rfl <;> rfl
/-- the reader's map says at each key what the table says -/
def Tab (xs : List ByteArray) (D : DataW Unit) (M : Nat → Bool) : Prop := Maps.IsMap D ∧ ∀ (a b : Nat) (t x : ByteArray), thS[a]? = some t → xs[b]? = some x → BAt D (keyS t x) (M (a * 3 + b))
theorem key_ne {xs : List ByteArray} (hxs : xs = thS ∨ xs = vaS) {a b a' b' : Nat} {t x t' x' : ByteArray} (ht : thS[a]? = some t) (hx : xs[b]? = some x) (ht' : thS[a']? = some t') (hx' : xs[b']? = some x') (hne : a' * 3 + b' ≠ a * 3 + b) : (keyS t' x').data.toList ≠ (keyS t x).data.toList := by
  rw [keyS_list, keyS_list]
  rcases hxs with rfl | rfl
  · rcases th_cases ht with ⟨rfl, rfl⟩ | ⟨rfl, rfl⟩ | ⟨rfl, rfl⟩ <;> rcases th_cases hx with ⟨rfl, rfl⟩ | ⟨rfl, rfl⟩ | ⟨rfl, rfl⟩ <;> rcases th_cases ht' with ⟨rfl, rfl⟩ | ⟨rfl, rfl⟩ | ⟨rfl, rfl⟩ <;> rcases th_cases hx' with ⟨rfl, rfl⟩ | ⟨rfl, rfl⟩ | ⟨rfl, rfl⟩ <;> first | exact absurd rfl hne | decide
  · rcases th_cases ht with ⟨rfl, rfl⟩ | ⟨rfl, rfl⟩ | ⟨rfl, rfl⟩ <;> rcases va_cases hx with ⟨rfl, rfl⟩ | ⟨rfl, rfl⟩ | ⟨rfl, rfl⟩ <;> rcases th_cases ht' with ⟨rfl, rfl⟩ | ⟨rfl, rfl⟩ | ⟨rfl, rfl⟩ <;> rcases va_cases hx' with ⟨rfl, rfl⟩ | ⟨rfl, rfl⟩ | ⟨rfl, rfl⟩ <;> first | exact absurd rfl hne | decide
theorem Tab.put {xs : List ByteArray} {D : DataW Unit} {M : Nat → Bool} (h : Tab xs D M) (hxs : xs = thS ∨ xs = vaS) {a b : Nat} {t x : ByteArray} (ht : thS[a]? = some t) (hx : xs[b]? = some x) : Tab xs (D.put (.string (keyS t x).data.toList) (.lit (.bool true))) (upd M (a * 3 + b) true) := by
  refine ⟨?_, fun a' b' t' x' ht' hx' => ?_⟩
  · exact h.1.put _ _
  · unfold upd
    by_cases e : a' * 3 + b' = a * 3 + b
    · rw [if_pos e]
      have hk : (keyS t' x').data.toList = (keyS t x).data.toList := by
        have hb3 : b < 3 := by rcases hxs with rfl | rfl <;> exact (List.getElem?_eq_some_iff.1 hx).1
        have hb3' : b' < 3 := by rcases hxs with rfl | rfl <;> exact (List.getElem?_eq_some_iff.1 hx').1
        have h1 : a' = a := by omega
        have h2 : b' = b := by omega
        subst h1 h2
        rw [ht] at ht'; rw [hx] at hx'; cases ht'; cases hx'; rfl
      have := BAt.put_same h.1 (keyS t x)
      unfold BAt at this ⊢
      rw [hk]
      exact this
    · rw [if_neg e]
      exact (h.2 a' b' t' x' ht' hx').put_other (key_ne hxs ht hx ht' hx' e) _
theorem Tab.del {xs : List ByteArray} {D : DataW Unit} {M : Nat → Bool} (h : Tab xs D M) (hxs : xs = thS ∨ xs = vaS) {a b : Nat} {t x : ByteArray} (ht : thS[a]? = some t) (hx : xs[b]? = some x) : Tab xs (D.del (.string (keyS t x).data.toList)) (upd M (a * 3 + b) false) := by
  refine ⟨?_, fun a' b' t' x' ht' hx' => ?_⟩
  · exact h.1.del _
  · unfold upd
    by_cases e : a' * 3 + b' = a * 3 + b
    · rw [if_pos e]
      have hk : (keyS t' x').data.toList = (keyS t x).data.toList := by
        have hb3 : b < 3 := by rcases hxs with rfl | rfl <;> exact (List.getElem?_eq_some_iff.1 hx).1
        have hb3' : b' < 3 := by rcases hxs with rfl | rfl <;> exact (List.getElem?_eq_some_iff.1 hx').1
        have h1 : a' = a := by omega
        have h2 : b' = b := by omega
        subst h1 h2
        rw [ht] at ht'; rw [hx] at hx'; cases ht'; cases hx'; rfl
      have := BAt.del_same (D := D) (keyS t x)
      unfold BAt at this ⊢
      rw [hk]
      exact this
    · rw [if_neg e]
      exact (h.2 a' b' t' x' ht' hx').del_other (key_ne hxs ht hx ht' hx' e)
theorem Tab.empty (xs : List ByteArray) : Tab xs (.map []) (fun _ => false) := ⟨Maps.isMap_empty, fun _ _ _ _ _ _ => BAt.empty _⟩
theorem Rdr.fr {S : Nat → Prop} {w w' : World} {base r ms mw mj ma ns nw : Nat} {tv qv : Value} {L : List It} {Ds Dw : DataW Unit} (h : Rdr w base r ms mw mj ma ns nw tv qv L Ds Dw) (f : Fr S w w')
    (hr : ¬ S r) (hq : ∀ g, qv.ownBlock = some g → ¬ S g) (h5 : ∀ g c, Blk w g c 5 → ¬ S g) (hm : ∀ g es cl, w.heap[g]? = some (.map es cl) → ¬ S g) : Rdr w' base r ms mw mj ma ns nw tv qv L Ds Dw := by
  obtain ⟨xt, ht⟩ := h.t
  have key : ∀ {k : TypeId} {R : Value → Option (DataW Unit × List MemPlace)} {b n : Nat} {D : DataW Unit}, w.ownsMap Ybaf.prog k R b n D → ¬ S b := by
    intro k R b n D ⟨es, cl, hm', _⟩
    exact hm b es cl hm'
  refine ⟨h.blk.fr f hr, row_fr h.q f hq, ⟨xt, row_fr ht f (fun g hg => ?_)⟩, map_fr h.st f (key h.st), map_fr h.wa f (key h.wa), map_fr h.jo f (key h.jo), map_fr h.aw f (key h.aw), Nat.le_trans h.lo f.size⟩
  obtain ⟨_, _, _, _, hb, _⟩ := row_blk ht hg
  exact h5 g _ hb
theorem not_map {w : World} {g : Nat} {c : Array Value} {e : TypeId} (h : Blk w g c e) {es : Array MapEntry} {cl : Nat} : w.heap[g]? ≠ some (.map es cl) := by
  unfold Blk at h; rw [h]; simp
/-- what is known of the blocks' numbers -/
structure Nums (base r ms mw mj ma a7 a8 : Nat) : Prop where
  b0 : 0 < base
  hr : base ≤ r
  hs : base ≤ ms
  hw : base ≤ mw
  h7 : base ≤ a7
  h8 : base ≤ a8
  sw : ms ≠ mw
  sj : ms ≠ mj
  sa : ms ≠ ma
  wj : mw ≠ mj
  wa : mw ≠ ma
  n78 : a7 ≠ a8
def trA (xs : List ByteArray) : Array Value := (xs.map Value.string).toArray
structure J (w0 w : World) (base r ms mw mj ma a3 a4 a7 a8 ns nw : Nat) (tv qv wv : Value) (Lq Lw : List It) (Ds Dw : DataW Unit) (WM SM : Nat → Bool) : Prop where
  rd : Rdr w base r ms mw mj ma ns nw tv qv Lq Ds Dw
  wt : w.ownsRow base 30 6 wv Lw.length (itF Lw)
  dj : ∀ g, qv.ownBlock = some g → wv.ownBlock ≠ some g
  th : Blk w a3 #[.string ⟨#[49]⟩, .string ⟨#[50]⟩, .string ⟨#[51]⟩] 48
  vr : Blk w a4 #[.string ⟨#[120]⟩, .string ⟨#[121]⟩, .string ⟨#[122]⟩] 48
  wm : Blk w a7 (bA WM) 51
  sm : Blk w a8 (bA SM) 51
  nm : Names w
  bl : Below base w0 w
section
variable {w0 w w' : World} {base r ms mw mj ma a3 a4 a7 a8 ns nw : Nat} {tv qv wv : Value} {Lq Lw : List It} {Ds Dw : DataW Unit} {WM SM : Nat → Bool}
theorem J.below (h : J w0 w base r ms mw mj ma a3 a4 a7 a8 ns nw tv qv wv Lq Lw Ds Dw WM SM) (hb : Below w.heap.size w w') : J w0 w' base r ms mw mj ma a3 a4 a7 a8 ns nw tv qv wv Lq Lw Ds Dw WM SM :=
  ⟨h.rd.below hb, row_fr h.wt (Fr.of_grown hb) (fun _ _ h => h), h.dj, h.th.below hb h.th.lt, h.vr.below hb h.vr.lt, h.wm.below hb h.wm.lt, h.sm.below hb h.sm.lt, h.nm.below hb, h.bl.trans (hb.mono h.rd.lo)⟩
theorem J.place (h : J w0 w base r ms mw mj ma a3 a4 a7 a8 ns nw tv qv wv Lq Lw Ds Dw WM SM) (hN : Nums base r ms mw mj ma a7 a8) {ns' nw' : Nat} {tv' qv' : Value} {Lq' : List It} {Ds' Dw' : DataW Unit} (hR : Rdr w' base r ms mw mj ma ns' nw' tv' qv' Lq' Ds' Dw')
    (f : Fr (fun j => j = ms ∨ j = mw ∨ j = r ∨ qv.ownBlock = some j ∨ S5 base w j) w w') (hg : ∀ g, qv'.ownBlock = some g → qv.ownBlock = some g ∨ w.heap.size ≤ g) : J w0 w' base r ms mw mj ma a3 a4 a7 a8 ns' nw' tv' qv' wv Lq' Lw Ds' Dw' WM SM := by
  have key : ∀ {g : Nat} {c : Array Value} {e : TypeId}, Blk w g c e → e ≠ 40 → e ≠ 5 → qv.ownBlock ≠ some g → ¬ (g = ms ∨ g = mw ∨ g = r ∨ qv.ownBlock = some g ∨ S5 base w g) := by
    intro g c e hb he h5 hq hS
    rcases hS with hS | hS | hS | hS | hS
    · exact map_ne h.rd.st hb hS
    · exact map_ne h.rd.wa hb hS
    · exact hb.ne h.rd.blk he hS
    · exact hq hS
    · exact hb.s5 h5 hS
  have b0 := hN.b0
  refine ⟨hR, row_fr h.wt f (fun g hg => ?_), fun g hg' => ?_, h.th.fr f (key h.th (by decide) (by decide) (row_ne h.rd.q h.th (by decide))), h.vr.fr f (key h.vr (by decide) (by decide) (row_ne h.rd.q h.vr (by decide))), h.wm.fr f (key h.wm (by decide) (by decide) (row_ne h.rd.q h.wm (by decide))), h.sm.fr f (key h.sm (by decide) (by decide) (row_ne h.rd.q h.sm (by decide))), ?_, ?_⟩
  · obtain ⟨_, _, _, _, hb, _⟩ := row_blk h.wt hg
    exact key hb (by decide) (by decide) (fun e => h.dj g e hg)
  · rcases hg g hg' with h1 | h1
    · exact h.dj g h1
    · intro e
      have := row_lt h.wt e
      omega
  · intro i s hi
    refine f.cell_some (h.nm i s hi) (fun hS => ?_)
    have := hN.hr
    have := hN.hs
    have := hN.hw
    rcases hS with hS | hS | hS | hS | hS
    · simp at hS; omega
    · simp at hS; omega
    · simp at hS; omega
    · have := row_base h.rd.q hS; simp at this; omega
    · have := hS.1; simp at this; omega
  · refine h.bl.trans (f.below h.rd.lo (fun k hS => ?_))
    have := hN.hr
    have := hN.hs
    have := hN.hw
    rcases hS with hS | hS | hS | hS | hS
    · omega
    · omega
    · omega
    · exact row_base h.rd.q hS
    · exact hS.1
theorem J.want (h : J w0 w base r ms mw mj ma a3 a4 a7 a8 ns nw tv qv wv Lq Lw Ds Dw WM SM) (hN : Nums base r ms mw mj ma a7 a8) {g cap : Nat} {it : It} {cs : List Value} (hw : w'.ownsRow base 30 6 (.slice (some ⟨g, 0, none⟩) (Lw.length + 1) cap) (Lw.length + 1) (itF Lw ++ cs)) (hc : cs = it.c)
    (f : Fr (fun j => wv.ownBlock = some j) w w') (hg : wv.ownBlock = some g ∨ g = w.heap.size) : J w0 w' base r ms mw mj ma a3 a4 a7 a8 ns nw tv qv (.slice (some ⟨g, 0, none⟩) (Lw ++ [it]).length cap) Lq (Lw ++ [it]) Ds Dw WM SM := by
  have b0 := hN.b0
  have key : ∀ {g : Nat} {c : Array Value} {e : TypeId}, Blk w g c e → e ≠ 30 → ¬ wv.ownBlock = some g := fun hb he => row_ne h.wt hb he
  refine ⟨h.rd.fr f (key h.rd.blk (by decide)) (fun g hq => h.dj g hq) (fun g c hb => key hb (by decide)) (fun g es cl hm hS => ?_), ?_, fun g' hq e => ?_, h.th.fr f (key h.th (by decide)), h.vr.fr f (key h.vr (by decide)), h.wm.fr f (key h.wm (by decide)), h.sm.fr f (key h.sm (by decide)), ?_, ?_⟩
  · obtain ⟨_, _, _, _, hb, _⟩ := row_blk h.wt hS
    exact not_map hb hm
  · rw [List.length_append, itF_app, show itF [it] = it.c from by simp [itF], ← hc]
    exact hw
  · simp [Value.ownBlock] at e
    subst e
    rcases hg with h1 | h1
    · exact h.dj _ hq h1
    · have := row_lt h.rd.q hq
      omega
  · intro i s hi
    refine f.cell_some (h.nm i s hi) (fun hS => ?_)
    have := row_base h.wt hS; simp at this; omega
  · exact h.bl.trans (f.below h.rd.lo (fun k hS => row_base h.wt hS))
theorem J.setW (h : J w0 w base r ms mw mj ma a3 a4 a7 a8 ns nw tv qv wv Lq Lw Ds Dw WM SM) (hN : Nums base r ms mw mj ma a7 a8) {j : Nat} (hj : j < 9) (b : Bool) : J w0 (w.setCell ⟨a7, j, none⟩ (.bool b)) base r ms mw mj ma a3 a4 a7 a8 ns nw tv qv wv Lq Lw Ds Dw (upd WM j b) SM := by
  have b0 := hN.b0
  have b7 := hN.h7
  have f : Fr (fun k => k = a7) w (w.setCell ⟨a7, j, none⟩ (.bool b)) := (Fr.refl (fun k => k = a7) w).setCell (fun _ => rfl) _
  have key : ∀ {g : Nat} {c : Array Value} {e : TypeId}, Blk w g c e → e ≠ 51 → ¬ g = a7 := fun hb he => hb.ne h.wm he
  refine ⟨h.rd.fr f (key h.rd.blk (by decide)) (fun g hq => ?_) (fun g c hb => key hb (by decide)) (fun g es cl hm hS => ?_), row_fr h.wt f (fun g hq => ?_), h.dj, h.th.fr f (key h.th (by decide)), h.vr.fr f (key h.vr (by decide)), ?_, h.sm.fr f (fun e => hN.n78 e.symm), ?_, ?_⟩
  · obtain ⟨_, _, _, _, hb, _⟩ := row_blk h.rd.q hq
    exact key hb (by decide)
  · subst hS; exact not_map h.wm hm
  · obtain ⟨_, _, _, _, hb, _⟩ := row_blk h.wt hq
    exact key hb (by decide)
  · rw [← bA_set WM hj]
    exact h.wm.set j _
  · intro i s hi
    refine f.cell_some (h.nm i s hi) (fun hS => ?_)
    simp at hS; omega
  · exact h.bl.trans (f.below h.rd.lo (fun k hS => by omega))
theorem J.setS (h : J w0 w base r ms mw mj ma a3 a4 a7 a8 ns nw tv qv wv Lq Lw Ds Dw WM SM) (hN : Nums base r ms mw mj ma a7 a8) {j : Nat} (hj : j < 9) (b : Bool) : J w0 (w.setCell ⟨a8, j, none⟩ (.bool b)) base r ms mw mj ma a3 a4 a7 a8 ns nw tv qv wv Lq Lw Ds Dw WM (upd SM j b) := by
  have b0 := hN.b0
  have b7 := hN.h8
  have f : Fr (fun k => k = a8) w (w.setCell ⟨a8, j, none⟩ (.bool b)) := (Fr.refl (fun k => k = a8) w).setCell (fun _ => rfl) _
  have key : ∀ {g : Nat} {c : Array Value} {e : TypeId}, Blk w g c e → e ≠ 51 → ¬ g = a8 := fun hb he => hb.ne h.sm he
  refine ⟨h.rd.fr f (key h.rd.blk (by decide)) (fun g hq => ?_) (fun g c hb => key hb (by decide)) (fun g es cl hm hS => ?_), row_fr h.wt f (fun g hq => ?_), h.dj, h.th.fr f (key h.th (by decide)), h.vr.fr f (key h.vr (by decide)), h.wm.fr f (fun e => hN.n78 e), ?_, ?_, ?_⟩
  · obtain ⟨_, _, _, _, hb, _⟩ := row_blk h.rd.q hq
    exact key hb (by decide)
  · subst hS; exact not_map h.sm hm
  · obtain ⟨_, _, _, _, hb, _⟩ := row_blk h.wt hq
    exact key hb (by decide)
  · rw [← bA_set SM hj]
    exact h.sm.set j _
  · intro i s hi
    refine f.cell_some (h.nm i s hi) (fun hS => ?_)
    simp at hS; omega
  · exact h.bl.trans (f.below h.rd.lo (fun k hS => by omega))
end

theorem BySl.form {w : World} {lo : Nat} {v : Value} {l : List UInt8} (h : BySl w lo v l) : ∃ a n c, v = .slice a n c := by
  rcases h with ⟨h, _⟩ | ⟨g, cap, m, c, h, _⟩
  · exact ⟨none, 0, 0, h⟩
  · exact ⟨_, _, _, h⟩
theorem BySl.some' {w : World} {lo : Nat} {v : Value} {l : List UInt8} (h : BySl w lo v l) (hl : 0 < l.length) : ∃ g c, v = .slice (some ⟨g, 0, none⟩) l.length c := by
  rcases h with ⟨_, h⟩ | ⟨g, cap, m, c, h, _⟩
  · rw [h] at hl; simp at hl
  · exact ⟨_, _, h⟩
theorem one_len {t : ByteArray} (h : t.size = 1) : t.data.toList.length = 1 := by rw [Array.length_toList]; exact h
/-- 'zzs2397cline', as 'place' wants what it made -/
theorem line_all (sh op : Int) (t x loc : ByteArray) (w : World) (ht : t.size = 1) (hx : x.size ≤ 1) (hloc : loc.size ≤ 2) :
    Calls Ybaf.prog 11 #[.int .u8 sh, .int .u8 op, .string t, .string x, .string loc] w fun e w' => ∃ na nl nc ag an ac tg tc oa on oc la ln lc, e = .returned (.agg #[.int .u8 op, .int .u8 sh, .slice na nl nc, .slice (some ⟨ag, 0, none⟩) an ac, .slice (some ⟨tg, 0, none⟩) 1 tc, .slice oa on oc, .slice la ln lc]) ∧
      (keyS t x).data.toList.length = an ∧ BySl w' w.heap.size (.slice (some ⟨ag, 0, none⟩) an ac) (keyS t x).data.toList ∧ BySl w' w.heap.size (.slice (some ⟨tg, 0, none⟩) 1 tc) t.data.toList ∧ BySl w' w.heap.size (.slice oa on oc) (opOf sh x.data.toList) ∧ BySl w' w.heap.size (.slice la ln lc) (locOf sh loc.data.toList) ∧ Below w.heap.size w w' := by
  refine (line_any sh op t x loc w ht hx hloc).mono ?_
  rintro e w' ⟨nv, av, tv, ov, lv, rfl, ⟨na, nl, nc, rfl⟩, hav, htv, hov, hlv, hb⟩
  obtain ⟨oa, on, oc, rfl⟩ := hov.form
  obtain ⟨la, ln, lc, rfl⟩ := hlv.form
  obtain ⟨ag, ac, rfl⟩ := hav.some' (by simp; omega)
  obtain ⟨tg, tc, htq⟩ := htv.some' (by rw [one_len ht]; decide)
  rw [one_len ht] at htq
  subst htq
  exact ⟨na, nl, nc, ag, _, ac, tg, tc, oa, on, oc, la, ln, lc, rfl, by rw [keyS_list], by rw [keyS_list]; exact hav, htv, hov, hlv, hb⟩
/-- 'want = append(want, it)' -/
theorem wpList_want {W : World} {o : Oper} {a : Act} {Q : Exit → Act → World → Prop} {ops : Array Oper} {rest : List Oper} {w0 : World} {base r ms mw mj ma a3 a4 a7 a8 ns nw : Nat} {tv qv wv : Value} {Lq Lw : List It} {Ds Dw : DataW Unit} {WM SM : Nat → Bool} (hgd : o.guard = none) (s x : Operand)
    (ho : o.op = .call { callee := .builtin .append, args := #[s, x], argTypes := #[25, 25] }) (hJ : J w0 W base r ms mw mj ma a3 a4 a7 a8 ns nw tv qv wv Lq Lw Ds Dw WM SM) (hN : Nums base r ms mw mj ma a7 a8) (it : It) (R : Nat) (hs : a.eval s = wv) (hx : a.eval x = .slice (some ⟨R, 0, none⟩) 1 1)
    (hR : Blk W R #[.string it.text, .int .i64 it.line, .int .u32 it.at_, .int .u32 it.en, .int .u8 it.op, .int .u8 it.st] 30) (hn : Lw.length < 100000)
    (h : ∀ g cap m w', m = (Lw ++ [it]).length → J w0 w' base r ms mw mj ma a3 a4 a7 a8 ns nw tv qv (.slice (some ⟨g, 0, none⟩) m cap) Lq (Lw ++ [it]) Ds Dw WM SM → wpList Ybaf.prog ops Q rest (a.put o.dst (.slice (some ⟨g, 0, none⟩) m cap)) w') : wpList Ybaf.prog ops Q (o :: rest) a W := by
  refine wpList_app1 hgd s x 25 ho 30 _ 6 40 Ybaf.underlying25 info30 rfl (by decide) base R wv Lw.length (itF Lw) #[.string it.text, .int .i64 it.line, .int .u32 it.at_, .int .u32 it.en, .int .u8 it.op, .int .u8 it.st] hs hx hJ.wt hR rfl (by simp [Value.oneCell']) (by omega) (by decide) hJ.rd.lo ?_
  intro g cap w' r1 r2 r3 r4
  have e1 : (Lw ++ [it]).length = Lw.length + 1 := by simp
  exact h g cap _ w' e1.symm (e1 ▸ hJ.want hN r1 rfl r2 r3)
theorem fr_place {w w' : World} {base r ms mw : Nat} {qv : Value} (f : Fr (fun j => j = r ∨ qv.ownBlock = some j ∨ S5 base w j) w w') : Fr (fun j => j = ms ∨ j = mw ∨ j = r ∨ qv.ownBlock = some j ∨ S5 base w j) w w' := f.mono (fun _ _ h => Or.inr (Or.inr h))
theorem fr_placeS {w w' : World} {base r ms mw : Nat} {qv : Value} (f : Fr (fun j => j = ms ∨ j = r ∨ qv.ownBlock = some j ∨ S5 base w j) w w') : Fr (fun j => j = ms ∨ j = mw ∨ j = r ∨ qv.ownBlock = some j ∨ S5 base w j) w w' := f.mono (fun _ _ h => by rcases h with h | h; exact Or.inl h; exact Or.inr (Or.inr h))
theorem fr_placeW {w w' : World} {base r ms mw : Nat} {qv : Value} (f : Fr (fun j => j = mw ∨ j = r ∨ qv.ownBlock = some j ∨ S5 base w j) w w') : Fr (fun j => j = ms ∨ j = mw ∨ j = r ∨ qv.ownBlock = some j ∨ S5 base w j) w w' := f.mono (fun _ _ h => Or.inr h)
end Go.Proofs.YbulkawpsFmt
