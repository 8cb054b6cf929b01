import Derived.Test.YbulkawpeLeaf
import Derived.Maps.RangeWalk
import Derived.Deep.RegionWith
import Derived.Deep.RegionLaw
import Derived.Deep.RegionHeld3
namespace Go.Proofs.Ybulkawpe
open Go.RowKit
set_option linter.unusedVariables false
set_option maxRecDepth 100000
theorem row_form {w : World} {base : Nat} {e : TypeId} {size : Nat} {v : Value} {n : Nat} {xs : List Value} (h : w.ownsRow base e size v n xs) : ∃ a c, v = .slice a n c ∧ (a = none → n = 0 ∧ c = 0) ∧ ∀ ad, a = some ad → ∃ g, ad = ⟨g, 0, none⟩ := by
  rcases h.2 with ⟨rfl, rfl⟩ | ⟨g, cap, cur, rfl, _⟩
  · exact ⟨_, _, rfl, fun _ => ⟨rfl, rfl⟩, fun ad h => by cases h⟩
  · exact ⟨_, _, rfl, fun h => (by cases h), fun ad h => ⟨g, by cases h; rfl⟩⟩
theorem earliest_0 (X : Nat) (G : Int) (w : World) (h : Blk w X #[.int .u64 (tN G), .int .i64 (tS G), .pointer none] 36) :
    Calls Yba.prog 15 #[.agg #[.int .u64 0, .int .i64 0, .pointer none], .pointer (some ⟨X, 0, none⟩)] w fun e w' =>
      e = .returned (.tuple #[]) ∧ Blk w' X #[.int .u64 (tN (min 0 G)), .int .i64 (tS (min 0 G)), .pointer none] 36 ∧ Fr (fun j => j = X) w w' := by
  have := earliest_any X 0 G w h
  rw [tN_zero, tS_zero] at this
  exact this
/-- what the calls of 'earliest' leave: the variable at block X holds G, the result's slot at block Z is as made, nothing old has turned -/
structure Held (w wr : World) (S : Int → Prop) (G : Int) : Prop where
  min : S G ∧ ∀ c, S c → G ≤ c
  x : Blk wr (w.heap.size + 1) #[.int .u64 (tN G), .int .i64 (tS G), .pointer none] 36
  z : Blk wr w.heap.size #[.int .u64 0, .int .i64 0, .pointer none] 36
  b : Below w.heap.size w wr
/-! ### minima -/
def IsMin (S : Int → Prop) (G : Int) : Prop := S G ∧ ∀ c, S c → G ≤ c
theorem IsMin.add {S : Int → Prop} {G : Int} (h : IsMin S G) (T : Int) : IsMin (fun c => S c ∨ c = T) (min T G) := by
  refine ⟨?_, fun c hc => ?_⟩
  · by_cases hl : T ≤ G
    · right; omega
    · left; rw [show min T G = G by omega]; exact h.1
  · rcases hc with hc | hc
    · have := h.2 c hc; omega
    · omega
theorem IsMin.addMin {S : Int → Prop} {G : Int} (h : IsMin S G) {L : List Int} {m : Int} (hm : m ∈ L) (hl : ∀ r ∈ L, m ≤ r) : IsMin (fun c => S c ∨ c ∈ L) (min m G) := by
  refine ⟨?_, fun c hc => ?_⟩
  · by_cases hle : m ≤ G
    · right; rw [show min m G = m by omega]; exact hm
    · left; rw [show min m G = G by omega]; exact h.1
  · rcases hc with hc | hc
    · have := h.2 c hc; omega
    · have := hl c hc; omega
theorem IsMin.congr {S S' : Int → Prop} {G : Int} (h : IsMin S G) (he : ∀ c, S c ↔ S' c) : IsMin S' G := ⟨(he G).1 h.1, fun c hc => h.2 c ((he c).2 hc)⟩
theorem Held.quiet {w wr w' : World} {S : Int → Prop} {G : Int} (h : Held w wr S G) (hb : Below wr.heap.size wr w') : Held w w' S G :=
  ⟨h.min, h.x.below hb h.x.lt, h.z.below hb h.z.lt, h.b.trans (hb.mono h.b.size)⟩
theorem Held.alloc {w wr : World} {S : Int → Prop} {G : Int} (h : Held w wr S G) (o : Obj) : Held w (wr.alloc o) S G :=
  ⟨h.min, h.x.alloc o, h.z.alloc o, h.b.alloc h.b.size o⟩
theorem Held.drew {w wr : World} {S : Int → Prop} {G : Int} (h : Held w wr S G) : Held w wr.drew S G := ⟨h.min, h.x, h.z, h.b.drew⟩
theorem Held.step {w wr w' : World} {S : Int → Prop} {G T : Int} (h : Held w wr S G) (hx : Blk w' (w.heap.size + 1) #[.int .u64 (tN (Min.min T G)), .int .i64 (tS (Min.min T G)), .pointer none] 36) (fr : Fr (fun j => j = w.heap.size + 1) wr w') : Held w w' (fun c => S c ∨ c = T) (Min.min T G) :=
  ⟨IsMin.add h.min T, hx, h.z.fr fr (by omega), h.b.trans (fr.below h.b.size (fun k hk => by omega))⟩
theorem Held.stepMin {w wr w' : World} {S : Int → Prop} {G m : Int} {L : List Int} (h : Held w wr S G) (hm : m ∈ L) (hl : ∀ r ∈ L, m ≤ r) (hx : Blk w' (w.heap.size + 1) #[.int .u64 (tN (Min.min m G)), .int .i64 (tS (Min.min m G)), .pointer none] 36) (fr : Fr (fun j => j = w.heap.size + 1) wr w') : Held w w' (fun c => S c ∨ c ∈ L) (Min.min m G) :=
  ⟨IsMin.addMin h.min hm hl, hx, h.z.fr fr (by omega), h.b.trans (fr.below h.b.size (fun k hk => by omega))⟩
theorem Held.congr {w wr : World} {S S' : Int → Prop} {G : Int} (h : Held w wr S G) (he : ∀ c, S c ↔ S' c) : Held w wr S' G := ⟨IsMin.congr h.min he, h.x, h.z, h.b⟩
/-! ### the data -/
structure EpD where
  keep : Int
  greet : Int
  reps : List Int
  peers : List Int
def EpSet (d : EpD) (c : Int) : Prop := c = 0 ∨ c = d.keep ∨ (d.greet ≠ 0 ∧ c = d.greet) ∨ c ∈ d.reps ∨ ∃ p ∈ d.peers, c = p + 2000
/-- within an int64 -/
def I64 (T : Int) : Prop := -9223372036854775808 ≤ T ∧ T ≤ 9223372036854775807
theorem I64.mild {T : Int} (h : I64 T) : Mild T := by unfold I64 at h; unfold Mild; omega
def peerC (T : Int) : List Value := [.int .u32 0, .int .u32 0, .int .u32 0, .int .u64 0, .int .u64 0, .pointer none, .int .u64 (tN T), .int .i64 (tS T), .pointer none]
def peerF : List Int → List Value
  | [] => []
  | T :: l => peerC T ++ peerF l
theorem peerF_get (R : List Int) (k i : Nat) (T : Int) (h : R[k]? = some T) (hi : i < 9) : (peerF R)[k * 9 + i]? = (peerC T)[i]? := by
  induction R generalizing k with
  | nil => simp at h
  | cons U l ih =>
    cases k with
    | zero =>
      simp at h; subst h
      rw [peerF, List.getElem?_append_left (by simp [peerC]; omega)]; simp
    | succ k =>
      rw [List.getElem?_cons_succ] at h
      rw [peerF, List.getElem?_append_right (by simp [peerC]; omega), ← ih k h]
      congr 1
      simp [peerC]; omega
/-- an endpoint as the law lays it, at block E -/
def EpAt (w : World) (base E : Nat) (d : EpD) : Prop :=
  ∃ id TR pv nv wv lv, Blk w E #[.int .u32 id, .pointer (some ⟨TR, 0, none⟩), .int .u64 (tN d.greet), .int .i64 (tS d.greet), .pointer none, .int .u64 (tN d.keep), .int .i64 (tS d.keep), .pointer none, pv, nv, wv, lv] 53 ∧
    Blk w TR #[.int .i64 0, .int .i64 0, .int .i64 0, .pointer none, .int .i64 0, .int .u64 0, .int .i64 0, .pointer none, .int .u64 0, .int .i64 0, .pointer none, .int .i64 0, .bool false] 46 ∧
    w.ownsRow base 72 9 pv d.peers.length (peerF d.peers) ∧ w.ownsRow base 67 9 wv d.reps.length (repF d.reps) ∧ d.peers.length ≤ 256 ∧ d.reps.length ≤ 256 ∧ (∀ p ∈ d.peers, I64 p)
theorem EpAt.below {w w' : World} {base E : Nat} {d : EpD} (h : EpAt w base E d) (hb : Below w.heap.size w w') : EpAt w' base E d := by
  obtain ⟨id, TR, pv, nv, wv, lv, h1, h2, h3, h4, h5⟩ := h
  exact ⟨id, TR, pv, nv, wv, lv, h1.below hb h1.lt, h2.below hb h2.lt, row_fr h3 (Fr.of_grown hb) (fun _ _ h => h), row_fr h4 (Fr.of_grown hb) (fun _ _ h => h), h5⟩
def SeenE (R S : Int) (eps : List EpD) (c : Int) : Prop := c = R ∨ c = S ∨ ∃ d ∈ eps, EpSet d c
theorem next_any (E o n c base : Nat) (a : Option Addr) (R : List Int) (w : World) (h : w.cell? ⟨E, o, none⟩ = some (.slice a n c)) (ho : w.ownsRow base 67 9 (.slice a n c) n (repF R)) (hn : R.length = n) (h2 : n ≤ 256) :
    Calls Yba.prog 17 #[.pointer (some ⟨E, o, none⟩)] w fun e w' => ∃ (m : Int) (b : Bool), e = .returned (.tuple #[.agg #[.int .u64 (tN m), .int .i64 (tS m), .pointer none], .bool b]) ∧ (b = false → R = []) ∧ (b = true → m ∈ R ∧ (∀ r ∈ R, m ≤ r)) ∧ Below w.heap.size w w' := by
  by_cases hz : n = 0
  · subst hz
    refine (next_none E o c a w h).mono ?_
    rintro e w' ⟨rfl, hb⟩
    exact ⟨0, false, by rw [tN_zero, tS_zero], fun _ => List.length_eq_zero_iff.1 hn, fun h => by simp at h, hb⟩
  · obtain ⟨g, cap, hf, _, _⟩ := ho.form (by omega)
    have hf' := hf
    rw [hf] at h ho
    refine (next_some E o g n cap base R w h ho hn (by omega) h2).mono ?_
    rintro e w' ⟨m, rfl, h1, h2, h3⟩
    exact ⟨m, true, rfl, fun h => by simp at h, fun _ => ⟨h1, h2⟩, h3⟩
/-! ### the nodes -/
def ptrElem (v : Value) : Option (DataW Unit × List MemPlace) := match v with
  | .pointer (some ⟨b, 0, none⟩) => some (.lit (.int .i64 b), [])
  | _ => none
theorem ptrElem_mk (b : Nat) : ptrElem (.pointer (some ⟨b, 0, none⟩)) = some (.lit (.int .i64 b), []) := rfl
theorem ptrElem_inv {v : Value} {y : DataW Unit × List MemPlace} (h : ptrElem v = some y) : ∃ b : Nat, v = .pointer (some ⟨b, 0, none⟩) := by
  unfold ptrElem at h
  split at h
  · exact ⟨_, rfl⟩
  · cases h
def RecAt (w : World) (b : Nat) (u : Int) : Prop := w.cell? ⟨b, 15, none⟩ = some (.int .u64 (tN u)) ∧ w.cell? ⟨b, 16, none⟩ = some (.int .i64 (tS u)) ∧ w.cell? ⟨b, 17, none⟩ = some (.pointer none)
theorem RecAt.below {w w' : World} {b : Nat} {u : Int} (h : RecAt w b u) (hb : Below w.heap.size w w') : RecAt w' b u := by
  have hl : b < w.heap.size := World.block_lt_of_cell? _ _ h.1
  exact ⟨(hb.cell (p := ⟨b, 15, none⟩) hl).trans h.1, (hb.cell (p := ⟨b, 16, none⟩) hl).trans h.2.1, (hb.cell (p := ⟨b, 17, none⟩) hl).trans h.2.2⟩
structure NodesAt (w : World) (D : DataW Unit) (us : List Int) : Prop where
  has : ∀ (i : Nat) (u : Int), us[i]? = some u → Maps.has D (.int .u32 i) = true
  at_ : ∀ (kl : Lit) (y : DataW Unit), (∀ zd, D.atKey kl zd = y) → ∃ (i b : Nat) (u : Int), us[i]? = some u ∧ kl = .int .u32 i ∧ y = .lit (.int .i64 b) ∧ RecAt w b u
def UnS (us : List Int) (g : Int) (left : Lit → Bool) (c : Int) : Prop := ∃ (i : Nat) (u : Int), us[i]? = some u ∧ left (.int .u32 i) = false ∧ u ≠ 0 ∧ c = u + g
theorem UnS_start {w : World} {D : DataW Unit} {us : List Int} (h : NodesAt w D us) (g c : Int) : ¬ UnS us g (Maps.has D) c := by
  rintro ⟨i, u, hi, hl, _⟩
  rw [h.has i u hi] at hl
  cases hl
theorem UnS_step {us : List Int} {g : Int} {left : Lit → Bool} {i : Nat} {u : Int} (hi : us[i]? = some u) (c : Int) : UnS us g (fun z => left z && !z.sameKey (.int .u32 i)) c ↔ UnS us g left c ∨ (u ≠ 0 ∧ c = u + g) := by
  constructor
  · rintro ⟨j, v, hj, hl, hv, hc⟩
    by_cases hji : j = i
    · subst hji
      rw [hi] at hj
      cases hj
      exact Or.inr ⟨hv, hc⟩
    · refine Or.inl ⟨j, v, hj, ?_, hv, hc⟩
      simp [Lit.sameKey] at hl
      rcases Bool.eq_false_or_eq_true (left (.int .u32 j)) with h | h
      · exact absurd (Int.ofNat.inj (hl h)) hji
      · exact h
  · rintro (⟨j, v, hj, hl, hv, hc⟩ | ⟨hv, hc⟩)
    · exact ⟨j, v, hj, by simp [hl], hv, hc⟩
    · exact ⟨i, u, hi, by simp [Lit.sameKey], hv, hc⟩
theorem UnS_end {us : List Int} {g : Int} {left : Lit → Bool} (hl : ∀ kl, left kl = false) (c : Int) : UnS us g left c ↔ ∃ u ∈ us, u ≠ 0 ∧ c = u + g := by
  constructor
  · rintro ⟨i, u, hi, _, hu, hc⟩
    exact ⟨u, List.mem_of_getElem? hi, hu, hc⟩
  · rintro ⟨u, hm, hu, hc⟩
    obtain ⟨i, hi⟩ := List.getElem?_of_mem hm
    exact ⟨i, u, hi, hl _, hu, hc⟩
theorem Fr.to_row {a b : World} {X : Nat} (h : Fr (fun j => j = X) a b) : a.grownBy b (some X) := ⟨h.os, h.tape, h.output, h.size, fun i hi hn => h.block i hi (fun he => hn (by rw [he]))⟩
theorem below_row {a b : World} (h : Below a.heap.size a b) : a.grownBy b none := ⟨h.os, h.tape, h.output, h.size, fun i hi _ => h.block i hi⟩
theorem Held.row {w wr w' : World} {S : Int → Prop} {G : Int} {r : Nat} (h : Held w wr S G) (hg : wr.grownBy w' (some r)) (hr : w.heap.size + 2 ≤ r) : Held w w' S G :=
  ⟨h.min, h.x.grown hg (fun he => by cases he; omega), h.z.grown hg (fun he => by cases he; omega), h.b.trans ⟨hg.os, hg.tape, hg.output, hg.size, fun i hi => hg.block i (Nat.lt_of_lt_of_le hi h.b.size) (fun he => by cases he; omega)⟩⟩
theorem Held.size {w wr : World} {S : Int → Prop} {G : Int} (h : Held w wr S G) : w.heap.size + 2 ≤ wr.heap.size := h.x.lt
end Go.Proofs.Ybulkawpe
