/-
  Plain laws of this seat's own: bits of a uint64; frames ('Fr': all blocks but those in S are as they were), blocks known whole ('Blk').
-/
import Derived.WalkKit
import Derived.ProofKit
import Derived.OpenShut
import Derived.Deep.AppendLies
import Derived.BigQuiet
namespace Go.Proofs.YbulkawpsFmt
open Go.RowKit

/-! ### bits -/
theorem and_mono (N : Int) (h0 : 0 ≤ N) (h1 : N < 9223372036854775808) : bits .and .u64 N 9223372036854775808 = 0 := by
  obtain ⟨a, rfl⟩ := Int.eq_ofNat_of_zero_le h0
  have h := bits_and_u64_nat a 9223372036854775808 (by omega) (by omega)
  have e : a &&& 9223372036854775808 = 0 := by
    have : a &&& 2 ^ 63 = 0 := by
      apply Nat.eq_of_testBit_eq
      intro i
      rw [Nat.testBit_and, Nat.testBit_two_pow, Nat.zero_testBit]
      by_cases hi : 63 = i
      · subst hi
        rw [Nat.testBit_lt_two_pow (by omega)]; rfl
      · simp [hi]
    simpa using this
  rw [e] at h
  exact h

theorem and_mask (N : Int) (h0 : 0 ≤ N) (h1 : N < 1073741824) : bits .and .u64 N 1073741823 = N := by
  obtain ⟨a, rfl⟩ := Int.eq_ofNat_of_zero_le h0
  have h := bits_and_u64_nat a 1073741823 (by omega) (by omega)
  have e : a &&& 1073741823 = a := by
    have := Nat.and_two_pow_sub_one_eq_mod a 30
    rw [show 2 ^ 30 - 1 = 1073741823 from rfl] at this
    rw [this]; exact Nat.mod_eq_of_lt (by omega)
  rw [e] at h
  exact h

theorem andNot_mask (N : Int) (h0 : 0 ≤ N) (h1 : N < 1073741824) : bits .andNot .u64 N 1073741823 = 0 := by
  obtain ⟨a, rfl⟩ := Int.eq_ofNat_of_zero_le h0
  show IntKind.u64.wrap ((BitVec.ofInt 64 (a : Int) &&& ~~~BitVec.ofInt 64 1073741823).toNat : Int) = 0
  have e : BitVec.ofInt 64 (a : Int) &&& ~~~BitVec.ofInt 64 1073741823 = 0#64 := by
    apply BitVec.eq_of_getLsbD_eq
    intro i hi
    rw [BitVec.ofInt_natCast]
    rw [BitVec.getLsbD_and, BitVec.getLsbD_not, BitVec.getLsbD_ofNat]
    by_cases h30 : i < 30
    · have : (BitVec.ofInt 64 1073741823).getLsbD i = true := by
        show (BitVec.ofNat 64 (2 ^ 30 - 1)).getLsbD i = true
        rw [BitVec.getLsbD_ofNat, Nat.testBit_two_pow_sub_one]
        simp [h30, hi]
      rw [this]; simp
    · have : a.testBit i = false := Nat.testBit_lt_two_pow (Nat.lt_of_lt_of_le (show a < 2 ^ 30 by omega) (Nat.pow_le_pow_right (by decide) (by omega)))
      rw [this]; simp
  rw [e, IntKind.wrap_u64]; rfl

theorem or_zero (N : Int) (h0 : 0 ≤ N) (h1 : N < 18446744073709551616) : bits .or .u64 0 N = N := by
  obtain ⟨a, rfl⟩ := Int.eq_ofNat_of_zero_le h0
  have h := bits_or_u64_nat 0 a (by omega) (by omega)
  rw [Nat.zero_or] at h
  exact h

/-! ### frames -/
/-- w' is w but for the blocks in S, and new blocks. -/
structure Fr (S : Nat → Prop) (w w' : World) : Prop where
  os : w'.os = w.os
  tape : w'.tape = w.tape
  output : w'.output = w.output
  size : w.heap.size ≤ w'.heap.size
  block : ∀ k, k < w.heap.size → ¬ S k → w'.heap[k]? = w.heap[k]?

theorem Fr.refl (S : Nat → Prop) (w : World) : Fr S w w := ⟨rfl, rfl, rfl, Nat.le_refl _, fun _ _ _ => rfl⟩
theorem Fr.trans {S S' : Nat → Prop} {a b c : World} (h : Fr S a b) (k : Fr S' b c) (hs : ∀ k, k < a.heap.size → S' k → S k) : Fr S a c :=
  ⟨k.os.trans h.os, k.tape.trans h.tape, k.output.trans h.output, Nat.le_trans h.size k.size,
   fun i hi hn => (k.block i (Nat.lt_of_lt_of_le hi h.size) (fun e => hn (hs i hi e))).trans (h.block i hi hn)⟩
theorem Fr.mono {S S' : Nat → Prop} {a b : World} (h : Fr S a b) (hs : ∀ k, k < a.heap.size → S k → S' k) : Fr S' a b :=
  ⟨h.os, h.tape, h.output, h.size, fun i hi hn => h.block i hi (fun e => hn (hs i hi e))⟩
theorem Fr.alloc {S : Nat → Prop} {a b : World} (h : Fr S a b) (o : Obj) : Fr S a (b.alloc o) :=
  h.trans (S' := fun _ => False) ⟨rfl, rfl, rfl, by simp, fun k hk _ => Below.heap_alloc _ _ _ hk⟩ (fun _ _ e => e.elim)
theorem Fr.drew {S : Nat → Prop} {a b : World} (h : Fr S a b) : Fr S a b.drew := ⟨h.os, h.tape, h.output, h.size, h.block⟩
theorem Fr.drewN {S : Nat → Prop} {a b : World} (h : Fr S a b) (n : Nat) : Fr S a (b.drewN n) := ⟨h.os, h.tape, h.output, h.size, h.block⟩
theorem Fr.setCell {S : Nat → Prop} {a b : World} (h : Fr S a b) {p : Addr} (hp : p.block < a.heap.size → S p.block) (u : Value) : Fr S a (b.setCell p u) :=
  h.trans (S' := fun k => k = p.block) ⟨rfl, rfl, rfl, by simp, fun k _ hk => Below.heap_setCell _ _ _ _ hk⟩ (fun k hk e => by subst e; exact hp hk)
theorem Fr.grown {S : Nat → Prop} {a b c : World} {row : Option Nat} (h : Fr S a b) (hg : b.grownBy c row) (hr : ∀ k, row = some k → k < a.heap.size → S k) : Fr S a c :=
  h.trans (S' := fun k => row = some k) ⟨hg.os, hg.tape, hg.output, hg.size, fun k hk hn => hg.block k hk (fun e => hn e.symm)⟩ (fun k hk e => hr k e hk)
theorem Fr.below {S : Nat → Prop} {a b : World} {B : Nat} (h : Fr S a b) (hB : B ≤ a.heap.size) (hs : ∀ k, S k → B ≤ k) : Below B a b :=
  ⟨h.os, h.tape, h.output, h.size, fun k hk => h.block k (by omega) (fun e => by have := hs k e; omega)⟩
theorem Fr.of_below {a b : World} {B : Nat} (h : Below B a b) : Fr (fun k => B ≤ k) a b :=
  ⟨h.os, h.tape, h.output, h.size, fun k _ hn => h.block k (by omega)⟩
/-- nothing old has turned -/
theorem Fr.of_grown {a b : World} (h : Below a.heap.size a b) : Fr (fun _ => False) a b :=
  ⟨h.os, h.tape, h.output, h.size, fun k hk _ => h.block k hk⟩
theorem Fr.to_grown {a b : World} (h : Fr (fun _ => False) a b) : Below a.heap.size a b :=
  h.below (Nat.le_refl _) (fun _ e => e.elim)
theorem Fr.cell {S : Nat → Prop} {a b : World} (h : Fr S a b) {p : Addr} (hp : p.block < a.heap.size) (hn : ¬ S p.block) : b.cell? p = a.cell? p := World.cell?_of_block (w := a) (h.block _ hp hn)
theorem Fr.frozen {S : Nat → Prop} {a b : World} (h : Fr S a b) {p : Addr} (hp : p.block < a.heap.size) (hn : ¬ S p.block) : b.frozen? p = a.frozen? p := World.frozen?_of_block (w := a) (h.block _ hp hn)
theorem Fr.cell_some {S : Nat → Prop} {a b : World} (h : Fr S a b) {p : Addr} {v : Value} (hc : a.cell? p = some v) (hn : ¬ S p.block) : b.cell? p = some v :=
  (h.cell (World.block_lt_of_cell? a p hc) hn).trans hc

/-! ### a block known whole -/
def Blk (w : World) (g : Nat) (c : Array Value) (e : TypeId) : Prop := w.heap[g]? = some (.cells c e (0, 0))

theorem Blk.lt {w : World} {g : Nat} {c : Array Value} {e : TypeId} (h : Blk w g c e) : g < w.heap.size := (Array.getElem?_eq_some_iff.1 h).1
theorem Blk.cell {w : World} {g : Nat} {c : Array Value} {e : TypeId} (h : Blk w g c e) (o : Nat) : w.cell? ⟨g, o, none⟩ = c[o]? := by
  unfold Blk at h; simp [World.cell?, h]
theorem Blk.frozen {w : World} {g : Nat} {c : Array Value} {e : TypeId} (h : Blk w g c e) (o : Nat) : w.frozen? ⟨g, o, none⟩ = false := by
  unfold Blk at h; simp [World.frozen?, h]
theorem Blk.alloc {w : World} {g : Nat} {c : Array Value} {e : TypeId} (h : Blk w g c e) (o : Obj) : Blk (w.alloc o) g c e :=
  (Below.heap_alloc w o g h.lt).trans h
theorem Blk.new (w : World) (c : Array Value) (e : TypeId) : Blk (w.alloc (.cells c e)) w.heap.size c e := heap_alloc_new w _
theorem Blk.new' {w : World} {c : Array Value} {e : TypeId} {R : Nat} (h : w.heap.size = R) : Blk (w.alloc (.cells c e)) R c e := h ▸ Blk.new w c e
theorem Blk.drew {w : World} {g : Nat} {c : Array Value} {e : TypeId} (h : Blk w g c e) : Blk w.drew g c e := h
theorem Blk.drewN {w : World} {g : Nat} {c : Array Value} {e : TypeId} (h : Blk w g c e) (n : Nat) : Blk (w.drewN n) g c e := h
theorem Blk.set {w : World} {g : Nat} {c : Array Value} {e : TypeId} (h : Blk w g c e) (o : Nat) (v : Value) : Blk (w.setCell ⟨g, o, none⟩ v) g (c.setIfInBounds o v) e := by
  unfold Blk at h ⊢
  simp [World.setCell, Array.getElem?_modify, h]
theorem Blk.set_other {w : World} {g : Nat} {c : Array Value} {e : TypeId} (h : Blk w g c e) {a : Addr} (hn : g ≠ a.block) (v : Value) : Blk (w.setCell a v) g c e :=
  (Below.heap_setCell w a v g hn).trans h
theorem Blk.fr {S : Nat → Prop} {w w' : World} {g : Nat} {c : Array Value} {e : TypeId} (h : Blk w g c e) (f : Fr S w w') (hn : ¬ S g) : Blk w' g c e :=
  (f.block g h.lt hn).trans h
theorem Blk.grown {row : Option Nat} {w w' : World} {g : Nat} {c : Array Value} {e : TypeId} (h : Blk w g c e) (f : w.grownBy w' row) (hn : some g ≠ row) : Blk w' g c e :=
  (f.block g h.lt hn).trans h
theorem Blk.ne {w : World} {g g' : Nat} {c c' : Array Value} {e e' : TypeId} (h : Blk w g c e) (h' : Blk w g' c' e') (he : e ≠ e') : g ≠ g' := by
  intro hg; subst hg; unfold Blk at h h'; rw [h] at h'; simp at h'; exact he h'.2
theorem Blk.inj {w : World} {g : Nat} {c c' : Array Value} {e e' : TypeId} (h : Blk w g c e) (h' : Blk w g c' e') : c = c' := by
  unfold Blk at h h'; rw [h] at h'; simp at h'; exact h'.1

theorem Blk.below {B : Nat} {w w' : World} {g : Nat} {c : Array Value} {e : TypeId} (h : Blk w g c e) (hb : Below B w w') (hg : g < B) : Blk w' g c e := (hb.block g hg).trans h
theorem cell_up {w w' : World} {p : Addr} {v : Value} (h : Below w.heap.size w w') (hc : w.cell? p = some v) : w'.cell? p = some v := (h.cell (World.block_lt_of_cell? w p hc)).trans hc
theorem bdrewN {B : Nat} {a w : World} (h : Below B a w) (n : Nat) : Below B a (w.drewN n) := ⟨h.os, h.tape, h.output, h.size, h.block⟩
theorem Blk.cells1 {w : World} {g : Nat} {x0 : Value} {e : TypeId} (h : Blk w g #[x0] e) : w.cell? ⟨g, 0, none⟩ = some x0 ∧ ∀ o, w.frozen? ⟨g, o, none⟩ = false :=
  ⟨h.cell 0, h.frozen⟩
theorem Blk.cells2 {w : World} {g : Nat} {x0 x1 : Value} {e : TypeId} (h : Blk w g #[x0, x1] e) : w.cell? ⟨g, 0, none⟩ = some x0 ∧ w.cell? ⟨g, 1, none⟩ = some x1 ∧ ∀ o, w.frozen? ⟨g, o, none⟩ = false :=
  ⟨h.cell 0, h.cell 1, h.frozen⟩
theorem Blk.cells3 {w : World} {g : Nat} {x0 x1 x2 : Value} {e : TypeId} (h : Blk w g #[x0, x1, x2] e) : w.cell? ⟨g, 0, none⟩ = some x0 ∧ w.cell? ⟨g, 1, none⟩ = some x1 ∧ w.cell? ⟨g, 2, none⟩ = some x2 ∧ ∀ o, w.frozen? ⟨g, o, none⟩ = false :=
  ⟨h.cell 0, h.cell 1, h.cell 2, h.frozen⟩
theorem Blk.cells4 {w : World} {g : Nat} {x0 x1 x2 x3 : Value} {e : TypeId} (h : Blk w g #[x0, x1, x2, x3] e) : w.cell? ⟨g, 0, none⟩ = some x0 ∧ w.cell? ⟨g, 1, none⟩ = some x1 ∧ w.cell? ⟨g, 2, none⟩ = some x2 ∧ w.cell? ⟨g, 3, none⟩ = some x3 ∧ ∀ o, w.frozen? ⟨g, o, none⟩ = false :=
  ⟨h.cell 0, h.cell 1, h.cell 2, h.cell 3, h.frozen⟩
theorem Blk.cells5 {w : World} {g : Nat} {x0 x1 x2 x3 x4 : Value} {e : TypeId} (h : Blk w g #[x0, x1, x2, x3, x4] e) : w.cell? ⟨g, 0, none⟩ = some x0 ∧ w.cell? ⟨g, 1, none⟩ = some x1 ∧ w.cell? ⟨g, 2, none⟩ = some x2 ∧ w.cell? ⟨g, 3, none⟩ = some x3 ∧ w.cell? ⟨g, 4, none⟩ = some x4 ∧ ∀ o, w.frozen? ⟨g, o, none⟩ = false :=
  ⟨h.cell 0, h.cell 1, h.cell 2, h.cell 3, h.cell 4, h.frozen⟩
theorem Blk.cells6 {w : World} {g : Nat} {x0 x1 x2 x3 x4 x5 : Value} {e : TypeId} (h : Blk w g #[x0, x1, x2, x3, x4, x5] e) : w.cell? ⟨g, 0, none⟩ = some x0 ∧ w.cell? ⟨g, 1, none⟩ = some x1 ∧ w.cell? ⟨g, 2, none⟩ = some x2 ∧ w.cell? ⟨g, 3, none⟩ = some x3 ∧ w.cell? ⟨g, 4, none⟩ = some x4 ∧ w.cell? ⟨g, 5, none⟩ = some x5 ∧ ∀ o, w.frozen? ⟨g, o, none⟩ = false :=
  ⟨h.cell 0, h.cell 1, h.cell 2, h.cell 3, h.cell 4, h.cell 5, h.frozen⟩
theorem Blk.cells7 {w : World} {g : Nat} {x0 x1 x2 x3 x4 x5 x6 : Value} {e : TypeId} (h : Blk w g #[x0, x1, x2, x3, x4, x5, x6] e) : w.cell? ⟨g, 0, none⟩ = some x0 ∧ w.cell? ⟨g, 1, none⟩ = some x1 ∧ w.cell? ⟨g, 2, none⟩ = some x2 ∧ w.cell? ⟨g, 3, none⟩ = some x3 ∧ w.cell? ⟨g, 4, none⟩ = some x4 ∧ w.cell? ⟨g, 5, none⟩ = some x5 ∧ w.cell? ⟨g, 6, none⟩ = some x6 ∧ ∀ o, w.frozen? ⟨g, o, none⟩ = false :=
  ⟨h.cell 0, h.cell 1, h.cell 2, h.cell 3, h.cell 4, h.cell 5, h.cell 6, h.frozen⟩
theorem Blk.cells8 {w : World} {g : Nat} {x0 x1 x2 x3 x4 x5 x6 x7 : Value} {e : TypeId} (h : Blk w g #[x0, x1, x2, x3, x4, x5, x6, x7] e) : w.cell? ⟨g, 0, none⟩ = some x0 ∧ w.cell? ⟨g, 1, none⟩ = some x1 ∧ w.cell? ⟨g, 2, none⟩ = some x2 ∧ w.cell? ⟨g, 3, none⟩ = some x3 ∧ w.cell? ⟨g, 4, none⟩ = some x4 ∧ w.cell? ⟨g, 5, none⟩ = some x5 ∧ w.cell? ⟨g, 6, none⟩ = some x6 ∧ w.cell? ⟨g, 7, none⟩ = some x7 ∧ ∀ o, w.frozen? ⟨g, o, none⟩ = false :=
  ⟨h.cell 0, h.cell 1, h.cell 2, h.cell 3, h.cell 4, h.cell 5, h.cell 6, h.cell 7, h.frozen⟩
theorem Blk.cells9 {w : World} {g : Nat} {x0 x1 x2 x3 x4 x5 x6 x7 x8 : Value} {e : TypeId} (h : Blk w g #[x0, x1, x2, x3, x4, x5, x6, x7, x8] e) : w.cell? ⟨g, 0, none⟩ = some x0 ∧ w.cell? ⟨g, 1, none⟩ = some x1 ∧ w.cell? ⟨g, 2, none⟩ = some x2 ∧ w.cell? ⟨g, 3, none⟩ = some x3 ∧ w.cell? ⟨g, 4, none⟩ = some x4 ∧ w.cell? ⟨g, 5, none⟩ = some x5 ∧ w.cell? ⟨g, 6, none⟩ = some x6 ∧ w.cell? ⟨g, 7, none⟩ = some x7 ∧ w.cell? ⟨g, 8, none⟩ = some x8 ∧ ∀ o, w.frozen? ⟨g, o, none⟩ = false :=
  ⟨h.cell 0, h.cell 1, h.cell 2, h.cell 3, h.cell 4, h.cell 5, h.cell 6, h.cell 7, h.cell 8, h.frozen⟩
theorem Blk.cells10 {w : World} {g : Nat} {x0 x1 x2 x3 x4 x5 x6 x7 x8 x9 : Value} {e : TypeId} (h : Blk w g #[x0, x1, x2, x3, x4, x5, x6, x7, x8, x9] e) : w.cell? ⟨g, 0, none⟩ = some x0 ∧ w.cell? ⟨g, 1, none⟩ = some x1 ∧ w.cell? ⟨g, 2, none⟩ = some x2 ∧ w.cell? ⟨g, 3, none⟩ = some x3 ∧ w.cell? ⟨g, 4, none⟩ = some x4 ∧ w.cell? ⟨g, 5, none⟩ = some x5 ∧ w.cell? ⟨g, 6, none⟩ = some x6 ∧ w.cell? ⟨g, 7, none⟩ = some x7 ∧ w.cell? ⟨g, 8, none⟩ = some x8 ∧ w.cell? ⟨g, 9, none⟩ = some x9 ∧ ∀ o, w.frozen? ⟨g, o, none⟩ = false :=
  ⟨h.cell 0, h.cell 1, h.cell 2, h.cell 3, h.cell 4, h.cell 5, h.cell 6, h.cell 7, h.cell 8, h.cell 9, h.frozen⟩
theorem Blk.cells11 {w : World} {g : Nat} {x0 x1 x2 x3 x4 x5 x6 x7 x8 x9 x10 : Value} {e : TypeId} (h : Blk w g #[x0, x1, x2, x3, x4, x5, x6, x7, x8, x9, x10] e) : w.cell? ⟨g, 0, none⟩ = some x0 ∧ w.cell? ⟨g, 1, none⟩ = some x1 ∧ w.cell? ⟨g, 2, none⟩ = some x2 ∧ w.cell? ⟨g, 3, none⟩ = some x3 ∧ w.cell? ⟨g, 4, none⟩ = some x4 ∧ w.cell? ⟨g, 5, none⟩ = some x5 ∧ w.cell? ⟨g, 6, none⟩ = some x6 ∧ w.cell? ⟨g, 7, none⟩ = some x7 ∧ w.cell? ⟨g, 8, none⟩ = some x8 ∧ w.cell? ⟨g, 9, none⟩ = some x9 ∧ w.cell? ⟨g, 10, none⟩ = some x10 ∧ ∀ o, w.frozen? ⟨g, o, none⟩ = false :=
  ⟨h.cell 0, h.cell 1, h.cell 2, h.cell 3, h.cell 4, h.cell 5, h.cell 6, h.cell 7, h.cell 8, h.cell 9, h.cell 10, h.frozen⟩
theorem Blk.cells12 {w : World} {g : Nat} {x0 x1 x2 x3 x4 x5 x6 x7 x8 x9 x10 x11 : Value} {e : TypeId} (h : Blk w g #[x0, x1, x2, x3, x4, x5, x6, x7, x8, x9, x10, x11] e) : w.cell? ⟨g, 0, none⟩ = some x0 ∧ w.cell? ⟨g, 1, none⟩ = some x1 ∧ w.cell? ⟨g, 2, none⟩ = some x2 ∧ w.cell? ⟨g, 3, none⟩ = some x3 ∧ w.cell? ⟨g, 4, none⟩ = some x4 ∧ w.cell? ⟨g, 5, none⟩ = some x5 ∧ w.cell? ⟨g, 6, none⟩ = some x6 ∧ w.cell? ⟨g, 7, none⟩ = some x7 ∧ w.cell? ⟨g, 8, none⟩ = some x8 ∧ w.cell? ⟨g, 9, none⟩ = some x9 ∧ w.cell? ⟨g, 10, none⟩ = some x10 ∧ w.cell? ⟨g, 11, none⟩ = some x11 ∧ ∀ o, w.frozen? ⟨g, o, none⟩ = false :=
  ⟨h.cell 0, h.cell 1, h.cell 2, h.cell 3, h.cell 4, h.cell 5, h.cell 6, h.cell 7, h.cell 8, h.cell 9, h.cell 10, h.cell 11, h.frozen⟩
theorem Blk.cells13 {w : World} {g : Nat} {x0 x1 x2 x3 x4 x5 x6 x7 x8 x9 x10 x11 x12 : Value} {e : TypeId} (h : Blk w g #[x0, x1, x2, x3, x4, x5, x6, x7, x8, x9, x10, x11, x12] e) : w.cell? ⟨g, 0, none⟩ = some x0 ∧ w.cell? ⟨g, 1, none⟩ = some x1 ∧ w.cell? ⟨g, 2, none⟩ = some x2 ∧ w.cell? ⟨g, 3, none⟩ = some x3 ∧ w.cell? ⟨g, 4, none⟩ = some x4 ∧ w.cell? ⟨g, 5, none⟩ = some x5 ∧ w.cell? ⟨g, 6, none⟩ = some x6 ∧ w.cell? ⟨g, 7, none⟩ = some x7 ∧ w.cell? ⟨g, 8, none⟩ = some x8 ∧ w.cell? ⟨g, 9, none⟩ = some x9 ∧ w.cell? ⟨g, 10, none⟩ = some x10 ∧ w.cell? ⟨g, 11, none⟩ = some x11 ∧ w.cell? ⟨g, 12, none⟩ = some x12 ∧ ∀ o, w.frozen? ⟨g, o, none⟩ = false :=
  ⟨h.cell 0, h.cell 1, h.cell 2, h.cell 3, h.cell 4, h.cell 5, h.cell 6, h.cell 7, h.cell 8, h.cell 9, h.cell 10, h.cell 11, h.cell 12, h.frozen⟩

/-! ### owned rows -/
theorem row_blk {w : World} {base : Nat} {e : TypeId} {size : Nat} {v : Value} {n : Nat} {xs : List Value} (h : w.ownsRow base e size v n xs) {g : Nat} (hg : v.ownBlock = some g) :
    ∃ cap cur, v = .slice (some ⟨g, 0, none⟩) n cap ∧ base ≤ g ∧ Blk w g cur e ∧ n ≤ cap ∧ cap ≤ maxLen ∧ cur.size = cap * size ∧ cur.toList.take (n * size) = xs := by
  rcases h.2 with ⟨rfl, _⟩ | ⟨g', cap, cur, rfl, hb, hh, h1, h2, h3, h4⟩
  · simp [Value.ownBlock] at hg
  · simp [Value.ownBlock] at hg; subst hg
    exact ⟨cap, cur, rfl, hb, hh, h1, h2, h3, h4⟩
theorem row_fr {S : Nat → Prop} {w w' : World} {base : Nat} {e : TypeId} {size : Nat} {v : Value} {n : Nat} {xs : List Value} (h : w.ownsRow base e size v n xs) (f : Fr S w w') (hn : ∀ g, v.ownBlock = some g → ¬ S g) : w'.ownsRow base e size v n xs := by
  refine ⟨h.1, ?_⟩
  rcases h.2 with h2 | ⟨g, cap, cur, hv, hb, hh, r⟩
  · exact Or.inl h2
  · refine Or.inr ⟨g, cap, cur, hv, hb, ?_, r⟩
    exact (f.block g (Array.getElem?_eq_some_iff.1 hh).1 (hn g (by rw [hv]; rfl))).trans hh
/-- an owned row of another element type than a block's is not that block -/
theorem row_ne {w : World} {base : Nat} {e e' : TypeId} {size : Nat} {v : Value} {n : Nat} {xs : List Value} (h : w.ownsRow base e size v n xs) {g : Nat} {c : Array Value} (hb : Blk w g c e') (he : e' ≠ e) : v.ownBlock ≠ some g := by
  intro hg
  obtain ⟨_, _, _, _, hb', _⟩ := row_blk h hg
  exact hb.ne hb' he rfl
theorem row_ne_row {w : World} {base base' : Nat} {e e' : TypeId} {size size' : Nat} {v v' : Value} {n n' : Nat} {xs xs' : List Value} (h : w.ownsRow base e size v n xs) (h' : w.ownsRow base' e' size' v' n' xs') (he : e ≠ e') {g : Nat} (hg : v.ownBlock = some g) : v'.ownBlock ≠ some g := by
  obtain ⟨_, _, _, _, hb, _⟩ := row_blk h hg
  exact row_ne h' hb he
theorem row_lt {w : World} {base : Nat} {e : TypeId} {size : Nat} {v : Value} {n : Nat} {xs : List Value} (h : w.ownsRow base e size v n xs) {g : Nat} (hg : v.ownBlock = some g) : g < w.heap.size := (h.lt g hg).2
theorem row_base {w : World} {base : Nat} {e : TypeId} {size : Nat} {v : Value} {n : Nat} {xs : List Value} (h : w.ownsRow base e size v n xs) {g : Nat} (hg : v.ownBlock = some g) : base ≤ g := (h.lt g hg).1
theorem row_set_other {w : World} {base : Nat} {e : TypeId} {size : Nat} {v : Value} {n : Nat} {xs : List Value} (h : w.ownsRow base e size v n xs) {a : Addr} (hn : v.ownBlock ≠ some a.block) (u : Value) : (w.setCell a u).ownsRow base e size v n xs :=
  row_fr h ((Fr.refl (fun k => k = a.block) w).setCell (fun _ => rfl) u) (fun g hg e => hn (by rw [hg, e]))
theorem row_mono {w : World} {base base' : Nat} {e : TypeId} {size : Nat} {v : Value} {n : Nat} {xs : List Value} (h : w.ownsRow base e size v n xs) (hb : base' ≤ base) : w.ownsRow base' e size v n xs := by
  refine ⟨h.1, ?_⟩
  rcases h.2 with h2 | ⟨g, cap, cur, hv, hg, r⟩
  · exact Or.inl h2
  · exact Or.inr ⟨g, cap, cur, hv, by omega, r⟩
/-- the j-th cell of an owned row -/
theorem row_cell {w : World} {base : Nat} {e : TypeId} {size : Nat} {g n cap : Nat} {xs : List Value} (h : w.ownsRow base e size (.slice (some ⟨g, 0, none⟩) n cap) n xs) {j : Nat} {u : Value} (hj : xs[j]? = some u) : w.cell? ⟨g, j, none⟩ = some u := by
  have := h.cells (g := g) rfl j u hj
  rwa [Addr.add_lit, Nat.zero_add] at this
theorem row_frozen {w : World} {base : Nat} {e : TypeId} {size : Nat} {g n cap : Nat} {xs : List Value} (h : w.ownsRow base e size (.slice (some ⟨g, 0, none⟩) n cap) n xs) (o : Nat) : w.frozen? ⟨g, o, none⟩ = false := by
  obtain ⟨_, _, _, _, hb, _⟩ := row_blk h (g := g) rfl
  exact hb.frozen o
/-- a store into an owned row -/
theorem row_set {w : World} {base : Nat} {e : TypeId} {size : Nat} {g n cap : Nat} {xs : List Value} (h : w.ownsRow base e size (.slice (some ⟨g, 0, none⟩) n cap) n xs) (j : Nat) (u : Value) :
    (w.setCell ⟨g, j, none⟩ u).ownsRow base e size (.slice (some ⟨g, 0, none⟩) n cap) n (xs.set j u) := by
  obtain ⟨cap', cur, hv, hb, hh, h1, h2, h3, h4⟩ := row_blk h (g := g) rfl
  simp only [Value.slice.injEq, true_and] at hv
  subst hv
  refine ⟨by rw [List.length_set]; exact h.1, Or.inr ⟨g, cap, cur.setIfInBounds j u, rfl, hb, hh.set j u, h1, h2, by simpa using h3, ?_⟩⟩
  rw [Array.toList_setIfInBounds, ← h4, List.take_set]

/-! ### append of one element, laid in a block of its own, onto a row that the call owns -/
section
variable {P : Program} {W : World} {o : Oper} {a : Act} {Q : Exit → Act → World → Prop}
theorem wp_app1 {K : Act → World → Prop} (s x : Operand) (t : TypeId)
    (ho : o.op = .call { callee := .builtin .append, args := #[s, x], argTypes := #[t, t] })
    (e : TypeId) (z : Value) (size bytes : Nat) (ht : P.underlying t = some (.slice e)) (hinfo : (P.info? e).map (fun i => (i.zero, i.size, i.bytes)) = some (some z, size, bytes)) (hzs : z.cells.size = size) (hsz : 0 < size)
    (base R : Nat) (v : Value) (n : Nat) (xs : List Value) (cs : Array Value) (hs : a.eval s = v) (hx : a.eval x = .slice (some ⟨R, 0, none⟩) 1 1)
    (hown : W.ownsRow base e size v n xs) (hR : Blk W R cs e) (hcs : cs.size = size) (h1 : ∀ u ∈ cs.toList, u.oneCell' = true) (hn : n < 1000000) (hby : bytes ≤ 1000000) (hbase : base ≤ W.heap.size)
    (h : ∀ g cap w', w'.ownsRow base e size (.slice (some ⟨g, 0, none⟩) (n + 1) cap) (n + 1) (xs ++ cs.toList) → Fr (fun j => v.ownBlock = some j) W w' → (v.ownBlock = some g ∨ g = W.heap.size) → g < w'.heap.size → K (a.put o.dst (.slice (some ⟨g, 0, none⟩) (n + 1) cap)) w') : o.wp P a W K Q := by
  obtain ⟨i, hi, hz, hsi, hbi⟩ := info_parts hinfo
  have hb : (n + 1) * bytes ≤ 140737488355328 := Nat.le_trans (Nat.mul_le_mul (show n + 1 ≤ 1000000 by omega) hby) (by decide)
  refine wp_append_lies W s x t ho base e i z size bytes ht hi hz hsi hbi hzs hsz v n xs hs hown ⟨R, 0, none⟩ 1 1 cs.toList hx (by simp [hcs]) (World.news_of_block hR) h1 (by decide) (by unfold maxLen; omega) hb hbase _ rfl ?_
  intro g cap w' r1 r2 r3 r4
  exact h g cap w' r1 ((Fr.refl _ W).grown r2 (fun k hk _ => hk)) r3 r4
theorem wpList_app1 {ops : Array Oper} {rest : List Oper} (hgd : o.guard = none) (s x : Operand) (t : TypeId)
    (ho : o.op = .call { callee := .builtin .append, args := #[s, x], argTypes := #[t, t] })
    (e : TypeId) (z : Value) (size bytes : Nat) (ht : P.underlying t = some (.slice e)) (hinfo : (P.info? e).map (fun i => (i.zero, i.size, i.bytes)) = some (some z, size, bytes)) (hzs : z.cells.size = size) (hsz : 0 < size)
    (base R : Nat) (v : Value) (n : Nat) (xs : List Value) (cs : Array Value) (hs : a.eval s = v) (hx : a.eval x = .slice (some ⟨R, 0, none⟩) 1 1)
    (hown : W.ownsRow base e size v n xs) (hR : Blk W R cs e) (hcs : cs.size = size) (h1 : ∀ u ∈ cs.toList, u.oneCell' = true) (hn : n < 1000000) (hby : bytes ≤ 1000000) (hbase : base ≤ W.heap.size)
    (h : ∀ g cap w', w'.ownsRow base e size (.slice (some ⟨g, 0, none⟩) (n + 1) cap) (n + 1) (xs ++ cs.toList) → Fr (fun j => v.ownBlock = some j) W w' → (v.ownBlock = some g ∨ g = W.heap.size) → g < w'.heap.size → wpList P ops Q rest (a.put o.dst (.slice (some ⟨g, 0, none⟩) (n + 1) cap)) w') : wpList P ops Q (o :: rest) a W :=
  wpList_plain hgd fun _ hK => wp_app1 s x t ho e z size bytes ht hinfo hzs hsz base R v n xs cs hs hx hown hR hcs h1 hn hby hbase fun g cap w' r1 r2 r3 r4 => hK _ _ (h g cap w' r1 r2 r3 r4)
theorem step_app1 {ops : Array Oper} {K : Act → World → Prop} {E : Prop} (hgd : o.guard = none) (s x : Operand) (t : TypeId)
    (ho : o.op = .call { callee := .builtin .append, args := #[s, x], argTypes := #[t, t] })
    (e : TypeId) (z : Value) (size bytes : Nat) (ht : P.underlying t = some (.slice e)) (hinfo : (P.info? e).map (fun i => (i.zero, i.size, i.bytes)) = some (some z, size, bytes)) (hzs : z.cells.size = size) (hsz : 0 < size)
    (base R : Nat) (v : Value) (n : Nat) (xs : List Value) (cs : Array Value) (hs : a.eval s = v) (hx : a.eval x = .slice (some ⟨R, 0, none⟩) 1 1)
    (hown : W.ownsRow base e size v n xs) (hR : Blk W R cs e) (hcs : cs.size = size) (h1 : ∀ u ∈ cs.toList, u.oneCell' = true) (hn : n < 1000000) (hby : bytes ≤ 1000000) (hbase : base ≤ W.heap.size)
    (h : ∀ g cap w', w'.ownsRow base e size (.slice (some ⟨g, 0, none⟩) (n + 1) cap) (n + 1) (xs ++ cs.toList) → Fr (fun j => v.ownBlock = some j) W w' → (v.ownBlock = some g ∨ g = W.heap.size) → g < w'.heap.size → K (a.put o.dst (.slice (some ⟨g, 0, none⟩) (n + 1) cap)) w') :
    if Region.wanted o (yielded ops a.tmps) = true then Oper.wp P o a W K Q else E := by
  have hw : Region.wanted o (yielded ops a.tmps) = true := by simp [Region.wanted, hgd]
  rw [if_pos hw]
  exact wp_app1 s x t ho e z size bytes ht hinfo hzs hsz base R v n xs cs hs hx hown hR hcs h1 hn hby hbase h
end

/-- make([]T, n) -/
theorem wpList_mk {P : Program} {W : World} {o : Oper} {a : Act} {Q : Exit → Act → World → Prop} {ops : Array Oper} {rest : List Oper} (hgd : o.guard = none) (l c : Operand) (t : TypeId) (hop : o.op = Op.makeSlice t l c)
    (e : TypeId) (z : Value) (size bytes : Nat) (ht : P.underlying t = some (.slice e)) (hinfo : (P.info? e).map (fun i => (i.zero, i.size, i.bytes)) = some (some z, size, bytes))
    (base n : Nat) (kl kc : IntKind) (hl : a.eval l = .int kl (n : Int)) (hc : a.eval c = .int kc (n : Int)) (hn : n < 1000000) (hby : bytes ≤ 1000000) (hbase : base ≤ W.heap.size) (R : Nat) (hR : W.heap.size = R)
    (h : ∀ w', w'.ownsRow base e size (.slice (some ⟨R, 0, none⟩) n n) n (madeCells z.cells (n * size)).toList → Fr (fun _ => False) W w' → wpList P ops Q rest (a.put o.dst (.slice (some ⟨R, 0, none⟩) n n)) w') :
    wpList P ops Q (o :: rest) a W := by
  subst hR
  obtain ⟨i, hi, hz, hsi, hbi⟩ := info_parts hinfo
  have hb : i.bytes * n ≤ 281474976710656 := by rw [hbi]; exact Nat.le_trans (Nat.mul_le_mul hby (show n ≤ 1000000 by omega)) (by decide)
  refine wpList_make_full W hgd l c t hop base e i z size ht hi hz hsi kl kc n n n hl hc rfl rfl hb (by unfold maxLen; omega) hbase ?_
  intro w' r1 r2
  exact h w' r1 ((Fr.refl _ W).grown r2 (fun k hk _ => by cases hk))
end Go.Proofs.YbulkawpsFmt
