import Derived.Test.YbulkawpeNext
import Derived.Test.YbulkawpeCand
/- What the law C-Earliest keeps from round to round. -/
namespace Go.Proofs.Ybulkawpe
open Go.RowKit
set_option linter.unusedVariables false
set_option maxRecDepth 100000
def EpsArg (w : World) (ea : Option Addr) (eps : List EpD) : Prop := ∀ (i : Nat) (d : EpD), eps[i]? = some d → ∃ b o ra rc pa pc, ea = some ⟨b, o, none⟩ ∧ w.cell? ⟨b, o + i * 4, none⟩ = some (.int .i64 d.keep) ∧ w.cell? ⟨b, o + i * 4 + 1, none⟩ = some (.int .i64 d.greet) ∧
  w.cell? ⟨b, o + i * 4 + 2, none⟩ = some (.slice ra d.reps.length rc) ∧ w.cell? ⟨b, o + i * 4 + 3, none⟩ = some (.slice pa d.peers.length pc) ∧ ArgInts w (.slice ra d.reps.length rc) d.reps ∧ ArgInts w (.slice pa d.peers.length pc) d.peers ∧ I64 d.keep ∧ I64 d.greet
structure Lw2 (w wr : World) (R S g : Int) (eps : List EpD) (k : Nat) (cv ev : Value) (L : List Int) (Es : List Nat) : Prop where
  row : wr.ownsRow w.heap.size 36 3 cv L.length (timeF L)
  len : L.length ≤ 2 + k * 515
  mem : ∀ c, c ∈ L ↔ SeenE R S (eps.take k) c
  es : wr.ownsRow w.heap.size 40 1 ev k (Es.map fun E => .pointer (some ⟨E, 0, none⟩))
  ep : ∀ (i E : Nat) (d : EpD), Es[i]? = some E → eps[i]? = some d → EpAt wr w.heap.size E d
  prof : Blk wr w.heap.size #[.int .i64 0, .int .i64 0, .int .i64 0, .int .i64 1000, .float .f64 4611686018427387904, .int .i64 g, .int .i64 0, .int .i64 0, .int .i64 0, .int .i64 0, .int .i64 0, .int .i64 0, .int .i64 0, .int .i64 0] 31
  b : Below w.heap.size w wr
theorem store_two (A : Addr) (W : World) : (store A (.float .f64 4611686018427387904)).run Yba.prog W = stored Yba.prog W A (.float .f64 4611686018427387904) .plain := run_store _ _ _ _ _ rfl
theorem Lw2.step {w wo wx wy w' : World} {R S g : Int} {eps : List EpD} {k : Nat} {cv0 ev0 : Value} {L L5 : List Int} {Es : List Nat} {d : EpD} {ra pa : Option Addr} {rc pc E TR ge cape : Nat} {id : Int} {nv lv cv pv wv : Value}
    (h : Lw2 w wo R S g eps k cv0 ev0 L Es) (hd : eps[k]? = some d) (hq : Rd w wo cv0 d ra pa rc pc E TR id nv lv wx cv pv wv L5 d.reps.length d.peers.length) (hl : L5.length ≤ L.length + 3 + d.reps.length + d.peers.length)
    (hm : ∀ c, c ∈ L5 ↔ c ∈ L ∨ EpSet d c) (hr : d.reps.length ≤ 256) (hp : d.peers.length ≤ 256) (hpi : ∀ p ∈ d.peers, I64 p)
    (own : w'.ownsRow w.heap.size 40 1 (.slice (some ⟨ge, 0, none⟩) (k + 1) cape) (k + 1) ((Es.map fun E => .pointer (some ⟨E, 0, none⟩)) ++ [.pointer (some ⟨E, 0, none⟩)])) (f : Fr (fun j => ev0.ownBlock = some j) wy w') (hy : Below wx.heap.size wx wy) :
    Lw2 w w' R S g eps (k + 1) cv (.slice (some ⟨ge, 0, none⟩) (k + 1) cape) L5 (Es ++ [E]) := by
  have hqy := hq.quiet hy
  have hesx := row_fr h.es hqy.cd.fr (fun g' hg' => row_ne_row h.es h.row (by decide) hg')
  have hek : Es.length = k := by have := h.es.1; simpa using this
  have hS1 : ∀ g', cv0.ownBlock = some g' → ∃ c e, Blk wo g' c e ∧ (e = 36 ∨ e = 40) := fun g' hg' => by
    obtain ⟨_, cur, _, _, hb, _⟩ := row_blk h.row hg'
    exact ⟨cur, 36, hb, Or.inl rfl⟩
  have hS2 : ∀ g', ev0.ownBlock = some g' → ∃ c e, Blk wy g' c e ∧ (e = 36 ∨ e = 40) := fun g' hg' => by
    obtain ⟨_, cur, _, _, hb, _⟩ := row_blk hesx hg'
    exact ⟨cur, 40, hb, Or.inr rfl⟩
  refine ⟨row_fr hqy.cd.row f (fun g' hg' => row_ne_row hqy.cd.row hesx (by decide) hg'), ?_, fun c => ?_, ?_, fun i E' d' hi hd' => ?_, ?_, ?_⟩
  · have := h.len; omega
  · rw [hm c, h.mem c, take_more hd]
    unfold SeenE
    constructor
    · rintro ((h1 | h1 | ⟨d', hd', h1⟩) | h1)
      · exact Or.inl h1
      · exact Or.inr (Or.inl h1)
      · exact Or.inr (Or.inr ⟨d', by simp [hd'], h1⟩)
      · exact Or.inr (Or.inr ⟨d, by simp, h1⟩)
    · rintro (h1 | h1 | ⟨d', hd', h1⟩)
      · exact Or.inl (Or.inl h1)
      · exact Or.inl (Or.inr (Or.inl h1))
      · rcases List.mem_append.1 hd' with h2 | h2
        · exact Or.inl (Or.inr (Or.inr ⟨d', h2, h1⟩))
        · simp at h2; subst h2; exact Or.inr h1
  · rw [List.map_append]; exact own
  · by_cases hik : i < k
    · rw [List.getElem?_append_left (by omega)] at hi
      exact ((h.ep i E' d' hi hd').fr hqy.cd.fr hS1).fr f hS2
    · have hik2 : i = k := by
        have := (List.getElem?_eq_some_iff.1 hi).1
        simp at this; omega
      subst hik2
      rw [List.getElem?_append_right (by omega), hek] at hi
      simp at hi
      subst hi
      rw [hd] at hd'
      cases hd'
      have hpo := hqy.po
      have hwo := hqy.wo
      rw [List.take_length] at hpo hwo
      exact EpAt.fr ⟨id, TR, pv, nv, wv, lv, hqy.e, hqy.t, hpo, hwo, hp, hr, hpi⟩ f hS2
  · have hp1 := h.prof.fr hqy.cd.fr (row_ne h.row h.prof (by decide))
    exact hp1.fr f (row_ne hesx hp1 (by decide))
  · have hl1 := hqy.low h.b h.row
    exact hl1.trans (f.below hl1.size (fun k hk => row_base hesx hk))
theorem Fr.of_row {a b : World} {X : Nat} (h : a.grownBy b (some X)) : Fr (fun j => j = X) a b := ⟨h.os, h.tape, h.output, h.size, fun i hi hn => h.block i hi (fun he => by cases he; exact hn rfl)⟩
theorem key_u32 (k : Nat) (hk : k < 4294967296) : keyOf Yba.prog 68 (.int .u32 k) = some (.int .u32 k) := by
  have h : (Lit.int .u32 k).wf = true := by simp [Lit.wf, IntKind.min, IntKind.max, IntKind.signed, IntKind.bits]; omega
  simp [keyOf, mapKey, Yba.underlying68, h]
theorem NodesAt.step {w w' : World} {D : DataW Unit} {us : List Int} {k M : Nat} {u : Int} (h : NodesAt w D (us.take k)) (hm : Maps.IsMap D) (hu : us[k]? = some u) (hrec : RecAt w' M u) (hkeep : ∀ b v, RecAt w b v → RecAt w' b v) :
    NodesAt w' (D.put (.int .u32 k) (.lit (.int .i64 M))) (us.take (k + 1)) := by
  have hkl : WideAt.IsKeyLit (Lit.int .u32 (k : Int)) := by simp [WideAt.IsKeyLit]
  have hlk : (us.take k).length = k := by have := (List.getElem?_eq_some_iff.1 hu).1; simp; omega
  refine ⟨fun i v hi => ?_, fun kl y hy => ?_⟩
  · rw [take_more hu] at hi
    by_cases hik : i < k
    · rw [List.getElem?_append_left (by omega)] at hi
      rw [Maps.has_put_other (by intro e; simp at e; omega)]
      exact h.has i v hi
    · have : i = k := by
        have := (List.getElem?_eq_some_iff.1 hi).1
        simp at this; omega
      subst this
      exact Maps.has_put_same hm hkl _
  · by_cases hkk : kl = .int .u32 k
    · subst hkk
      have := hy (.lit (.int .i64 0))
      rw [Maps.atKey_put_same hm hkl] at this
      refine ⟨k, M, u, ?_, rfl, this.symm, hrec⟩
      rw [take_more hu, List.getElem?_append_right (by omega), hlk]; simp
    · obtain ⟨i, b, v, hi, e1, e2, e3⟩ := h.at_ kl y (fun zd => by rw [← hy zd, Maps.atKey_put_other hkk])
      refine ⟨i, b, v, ?_, e1, e2, hkeep b v e3⟩
      rw [take_more hu, List.getElem?_append_left (by have := (List.getElem?_eq_some_iff.1 hi).1; omega)]
      exact hi
theorem NodesAt.keep {w w' : World} {D : DataW Unit} {us : List Int} (h : NodesAt w D us) (hkeep : ∀ b v, RecAt w b v → RecAt w' b v) : NodesAt w' D us :=
  ⟨h.has, fun kl y hy => by obtain ⟨i, b, v, h1, h2, h3, h4⟩ := h.at_ kl y hy; exact ⟨i, b, v, h1, h2, h3, hkeep b v h4⟩⟩
def NodB (w : World) (D : DataW Unit) : Prop := ∀ (kl : Lit) (y : DataW Unit), (∀ zd, D.atKey kl zd = y) → ∃ (b : Nat) (c : Array Value), y = .lit (.int .i64 b) ∧ Blk w b c 84
theorem NodB.keep {w w' : World} {D : DataW Unit} (h : NodB w D) (hk : ∀ b c, Blk w b c 84 → Blk w' b c 84) : NodB w' D := fun kl y hy => by
  obtain ⟨b, c, h1, h2⟩ := h kl y hy
  exact ⟨b, c, h1, hk b c h2⟩
theorem NodB.step {w w' : World} {D : DataW Unit} {k M : Nat} {cm : Array Value} (h : NodB w D) (hm : Maps.IsMap D) (hM : Blk w' M cm 84) (hk : ∀ b c, Blk w b c 84 → Blk w' b c 84) : NodB w' (D.put (.int .u32 k) (.lit (.int .i64 M))) := fun kl y hy => by
  have hkl : WideAt.IsKeyLit (Lit.int .u32 (k : Int)) := by simp [WideAt.IsKeyLit]
  by_cases hkk : kl = .int .u32 k
  · subst hkk
    have := hy (.lit (.int .i64 0))
    rw [Maps.atKey_put_same hm hkl] at this
    exact ⟨M, cm, this.symm, hM⟩
  · obtain ⟨b, c, h1, h2⟩ := h kl y (fun zd => by rw [← hy zd, Maps.atKey_put_other hkk])
    exact ⟨b, c, h1, hk b c h2⟩
theorem NodesAt.keepB {w w' : World} {D : DataW Unit} {us : List Int} (h : NodesAt w D us) (hB : NodB w D) (hkeep : ∀ b c v, Blk w b c 84 → RecAt w b v → RecAt w' b v) : NodesAt w' D us :=
  ⟨h.has, fun kl y hy => by
    obtain ⟨i, b, v, h1, h2, h3, h4⟩ := h.at_ kl y hy
    obtain ⟨b', c, e1, e2⟩ := hB kl y hy
    rw [h3] at e1
    simp at e1
    have : b = b' := by omega
    subst this
    exact ⟨i, b, v, h1, h2, h3, hkeep b c v e2 h4⟩⟩
structure Lw5 (w wr : World) (R S g : Int) (eps : List EpD) (us : List Int) (k : Nat) (cv ev : Value) (L : List Int) (Es : List Nat) (mb : Nat) (D : DataW Unit) : Prop where
  row : wr.ownsRow w.heap.size 36 3 cv L.length (timeF L)
  len : L.length ≤ 2 + eps.length * 515 + k
  mem : ∀ c, c ∈ L ↔ SeenE R S eps c ∨ ∃ u ∈ us.take k, u ≠ 0 ∧ c = u + g
  es : wr.ownsRow w.heap.size 40 1 ev eps.length (Es.map fun E => .pointer (some ⟨E, 0, none⟩))
  ep : ∀ (i E : Nat) (d : EpD), Es[i]? = some E → eps[i]? = some d → EpAt wr w.heap.size E d
  prof : Blk wr w.heap.size #[.int .i64 0, .int .i64 0, .int .i64 0, .int .i64 1000, .float .f64 4611686018427387904, .int .i64 g, .int .i64 0, .int .i64 0, .int .i64 0, .int .i64 0, .int .i64 0, .int .i64 0, .int .i64 0, .int .i64 0] 31
  map : wr.ownsMap Yba.prog 68 ptrElem mb k D
  mlo : w.heap.size ≤ mb
  nod : NodesAt wr D (us.take k)
  nb : NodB wr D
  b : Below w.heap.size w wr
theorem Lw5.start {w wr : World} {R S g : Int} {eps : List EpD} (us : List Int) {cv ev : Value} {L : List Int} {Es : List Nat} (h : Lw2 w wr R S g eps eps.length cv ev L Es) :
    Lw5 w (wr.alloc (.map #[] 0)) R S g eps us 0 cv ev L Es wr.heap.size (.map []) := by
  have hb : Below wr.heap.size wr (wr.alloc (.map #[] 0)) := (Below.refl _ wr).alloc (Nat.le_refl _) _
  refine ⟨row_fr h.row (Fr.of_grown hb) (fun _ _ h => h), by have := h.len; omega, fun c => ?_, row_fr h.es (Fr.of_grown hb) (fun _ _ h => h), fun i E d h1 h2 => (h.ep i E d h1 h2).below hb, h.prof.below hb h.prof.lt, World.ownsMap_made wr _ _ _, h.b.size, ⟨fun i u hi => by simp at hi, fun kl y hy => ?_⟩, fun kl y hy => ?_, h.b.trans (hb.mono h.b.size)⟩
  · rw [h.mem c, List.take_length]; simp
  · have h1 := hy (.lit (.int .i64 0))
    have h2 := hy (.lit (.int .i64 1))
    simp [DataW.atKey] at h1 h2
    rw [← h1] at h2
    simp at h2
  · have h1 := hy (.lit (.int .i64 0))
    have h2 := hy (.lit (.int .i64 1))
    simp [DataW.atKey] at h1 h2
    rw [← h1] at h2
    simp at h2
/-- nothing old has turned -/
theorem Lw5.quiet {w wr w' : World} {R S g : Int} {eps : List EpD} {us : List Int} {k : Nat} {cv ev : Value} {L : List Int} {Es : List Nat} {mb : Nat} {D : DataW Unit} (h : Lw5 w wr R S g eps us k cv ev L Es mb D) (hb : Below wr.heap.size wr w') : Lw5 w w' R S g eps us k cv ev L Es mb D :=
  ⟨row_fr h.row (Fr.of_grown hb) (fun _ _ h => h), h.len, h.mem, row_fr h.es (Fr.of_grown hb) (fun _ _ h => h), fun i E d h1 h2 => (h.ep i E d h1 h2).below hb, h.prof.below hb h.prof.lt, h.map.kept (below_row hb) (by simp), h.mlo, h.nod.keep (fun b v hr => hr.below hb), h.nb.keep (fun b c hc => hc.below hb hc.lt), h.b.trans (hb.mono h.b.size)⟩
/-- a node more, its candidate not yet -/
structure Lw5n (w wr : World) (R S g : Int) (eps : List EpD) (us : List Int) (k : Nat) (cv ev : Value) (L : List Int) (Es : List Nat) (mb : Nat) (D : DataW Unit) : Prop where
  row : wr.ownsRow w.heap.size 36 3 cv L.length (timeF L)
  len : L.length ≤ 2 + eps.length * 515 + k
  mem : ∀ c, c ∈ L ↔ SeenE R S eps c ∨ ∃ u ∈ us.take k, u ≠ 0 ∧ c = u + g
  es : wr.ownsRow w.heap.size 40 1 ev eps.length (Es.map fun E => .pointer (some ⟨E, 0, none⟩))
  ep : ∀ (i E : Nat) (d : EpD), Es[i]? = some E → eps[i]? = some d → EpAt wr w.heap.size E d
  prof : Blk wr w.heap.size #[.int .i64 0, .int .i64 0, .int .i64 0, .int .i64 1000, .float .f64 4611686018427387904, .int .i64 g, .int .i64 0, .int .i64 0, .int .i64 0, .int .i64 0, .int .i64 0, .int .i64 0, .int .i64 0, .int .i64 0] 31
  map : wr.ownsMap Yba.prog 68 ptrElem mb (k + 1) D
  mlo : w.heap.size ≤ mb
  nod : NodesAt wr D (us.take (k + 1))
  nb : NodB wr D
  b : Below w.heap.size w wr
theorem Lw5n.quiet {w wr w' : World} {R S g : Int} {eps : List EpD} {us : List Int} {k : Nat} {cv ev : Value} {L : List Int} {Es : List Nat} {mb : Nat} {D : DataW Unit} (h : Lw5n w wr R S g eps us k cv ev L Es mb D) (hb : Below wr.heap.size wr w') : Lw5n w w' R S g eps us k cv ev L Es mb D :=
  ⟨row_fr h.row (Fr.of_grown hb) (fun _ _ h => h), h.len, h.mem, row_fr h.es (Fr.of_grown hb) (fun _ _ h => h), fun i E d h1 h2 => (h.ep i E d h1 h2).below hb, h.prof.below hb h.prof.lt, h.map.kept (below_row hb) (by simp), h.mlo, h.nod.keep (fun b v hr => hr.below hb), h.nb.keep (fun b c hc => hc.below hb hc.lt), h.b.trans (hb.mono h.b.size)⟩
theorem map_ne {w : World} {P : Program} {k : TypeId} {R : Value → Option (DataW Unit × List MemPlace)} {b n : Nat} {D : DataW Unit} (h : w.ownsMap P k R b n D) {g : Nat} {c : Array Value} {e : TypeId} (hb : Blk w g c e) : g ≠ b := by
  rintro rfl
  obtain ⟨es, cl, hm, _⟩ := h
  unfold Blk at hb
  rw [hb] at hm
  cases hm
theorem map_ne_cell {w : World} {P : Program} {k : TypeId} {R : Value → Option (DataW Unit × List MemPlace)} {b n : Nat} {D : DataW Unit} (h : w.ownsMap P k R b n D) {g o : Nat} {v : Value} (hb : w.cell? ⟨g, o, none⟩ = some v) : g ≠ b := by
  rintro rfl
  obtain ⟨es, cl, hm, _⟩ := h
  simp [World.cell?, hm] at hb
theorem EpAt.frM {w w' : World} {base E mb : Nat} {d : EpD} {P : Program} {k : TypeId} {R : Value → Option (DataW Unit × List MemPlace)} {n : Nat} {D : DataW Unit} (h : EpAt w base E d) (hm : w.ownsMap P k R mb n D) (f : Fr (fun j => j = mb) w w') : EpAt w' base E d := by
  obtain ⟨id, TR, pv, nv, wv, lv, h1, h2, h3, h4, h5⟩ := h
  refine ⟨id, TR, pv, nv, wv, lv, h1.fr f (map_ne hm h1), h2.fr f (map_ne hm h2), row_fr h3 f ?_, row_fr h4 f ?_, h5⟩
  · intro g hg
    obtain ⟨_, _, _, _, hb, _⟩ := row_blk h3 hg
    exact map_ne hm hb
  · intro g hg
    obtain ⟨_, _, _, _, hb, _⟩ := row_blk h4 hg
    exact map_ne hm hb
/-- the node's record is laid into the map -/
theorem Lw5.node {w wr w' : World} {R S g : Int} {eps : List EpD} {us : List Int} {k : Nat} {cv ev : Value} {L : List Int} {Es : List Nat} {mb M : Nat} {D : DataW Unit} {u : Int} (h : Lw5 w wr R S g eps us k cv ev L Es mb D) (hu : us[k]? = some u) (hrec : RecAt wr M u) {cm : Array Value} (hM : Blk wr M cm 84)
    (hmap : w'.ownsMap Yba.prog 68 ptrElem mb (k + 1) (D.put (.int .u32 k) (.lit (.int .i64 M)))) (hg : wr.grownBy w' (some mb)) : Lw5n w w' R S g eps us k cv ev L Es mb (D.put (.int .u32 k) (.lit (.int .i64 M))) := by
  have f := Fr.of_row hg
  have rk : ∀ b v, RecAt wr b v → RecAt w' b v := fun b v hr => hr.fr f (map_ne_cell h.map hr.1)
  refine ⟨row_fr h.row f (fun g' hg' => ?_), h.len, h.mem, row_fr h.es f (fun g' hg' => ?_), fun i E d h1 h2 => (h.ep i E d h1 h2).frM h.map f, h.prof.fr f (map_ne h.map h.prof), hmap, h.mlo, h.nod.step h.map.isMap hu (rk M u hrec) rk, h.nb.step h.map.isMap (hM.fr f (map_ne h.map hM)) (fun b c hc => hc.fr f (map_ne h.map hc)), h.b.trans (f.below h.b.size (fun j hj => hj ▸ h.mlo))⟩
  · obtain ⟨_, _, _, _, hb, _⟩ := row_blk h.row hg'
    exact map_ne h.map hb
  · obtain ⟨_, _, _, _, hb, _⟩ := row_blk h.es hg'
    exact map_ne h.map hb
/-- no candidate: the node's time is zero -/
theorem Lw5n.zero {w wr : World} {R S g : Int} {eps : List EpD} {us : List Int} {k : Nat} {cv ev : Value} {L : List Int} {Es : List Nat} {mb : Nat} {D : DataW Unit} {u : Int} (h : Lw5n w wr R S g eps us k cv ev L Es mb D) (hu : us[k]? = some u) (hz : u = 0) : Lw5 w wr R S g eps us (k + 1) cv ev L Es mb D := by
  refine ⟨h.row, by have := h.len; omega, fun c => ?_, h.es, h.ep, h.prof, h.map, h.mlo, h.nod, h.nb, h.b⟩
  rw [h.mem c, take_more hu]
  subst hz
  constructor
  · rintro (h1 | ⟨v, hv, h1⟩)
    · exact Or.inl h1
    · exact Or.inr ⟨v, by simp [hv], h1⟩
  · rintro (h1 | ⟨v, hv, h1, h2⟩)
    · exact Or.inl h1
    · rcases List.mem_append.1 hv with h3 | h3
      · exact Or.inr ⟨v, h3, h1, h2⟩
      · simp at h3; exact absurd h3 h1
/-- a candidate more -/
theorem Lw5n.app {w wr w' : World} {R S g : Int} {eps : List EpD} {us : List Int} {k : Nat} {cv ev : Value} {L : List Int} {Es : List Nat} {mb : Nat} {D : DataW Unit} {u : Int} {gc cap n : Nat} {cs : List Value} (h : Lw5n w wr R S g eps us k cv ev L Es mb D) (hu : us[k]? = some u) (hz : u ≠ 0)
    (hr : w'.ownsRow w.heap.size 36 3 (.slice (some ⟨gc, 0, none⟩) n cap) n (timeF L ++ cs)) (hn : n = (L ++ [u + g]).length) (hcs : cs = timeF [u + g]) (f : Fr (fun j => cv.ownBlock = some j) wr w') : Lw5 w w' R S g eps us (k + 1) (.slice (some ⟨gc, 0, none⟩) n cap) ev (L ++ [u + g]) Es mb D := by
  subst hn hcs
  have hS : ∀ g', cv.ownBlock = some g' → ∃ c e, Blk wr g' c e ∧ (e = 36 ∨ e = 40) := fun g' hg' => by
    obtain ⟨_, cur, _, _, hb, _⟩ := row_blk h.row hg'
    exact ⟨cur, 36, hb, Or.inl rfl⟩
  have hmb : cv.ownBlock ≠ some mb := fun hg' => by
    obtain ⟨_, cur, _, _, hb, _⟩ := row_blk h.row hg'
    exact map_ne h.map hb rfl
  refine ⟨by rw [timeF_app]; exact hr, by have := h.len; simp; omega, fun c => ?_, row_fr h.es f (fun g' hg' => row_ne_row h.es h.row (by decide) hg'), fun i E d h1 h2 => (h.ep i E d h1 h2).fr f hS, h.prof.fr f (row_ne h.row h.prof (by decide)), ?_, h.mlo, h.nod.keepB h.nb (fun b c v hc hrec => hrec.fr f (row_ne h.row hc (by decide))), h.nb.keep (fun b c hc => hc.fr f (row_ne h.row hc (by decide))), h.b.trans (f.below h.b.size (fun j hj => row_base h.row hj))⟩
  · rw [List.mem_append, h.mem c, take_more hu]
    constructor
    · rintro ((h1 | ⟨v, hv, h1⟩) | h1)
      · exact Or.inl h1
      · exact Or.inr ⟨v, by simp [hv], h1⟩
      · exact Or.inr ⟨u, by simp, hz, by simpa using h1⟩
    · rintro (h1 | ⟨v, hv, h1, h2⟩)
      · exact Or.inl (Or.inl h1)
      · rcases List.mem_append.1 hv with h3 | h3
        · exact Or.inl (Or.inr ⟨v, h3, h1, h2⟩)
        · simp at h3; subst h3; exact Or.inr (by simp [h2])
  · obtain ⟨es, cl, hm, r⟩ := h.map
    exact ⟨es, cl, (f.block mb (Array.getElem?_eq_some_iff.1 hm).1 hmb).trans hm, r⟩
theorem Blk.cells14 {w : World} {g : Nat} {x0 x1 x2 x3 x4 x5 x6 x7 x8 x9 x10 x11 x12 x13 : Value} {e : TypeId} (h : Blk w g #[x0, x1, x2, x3, x4, x5, x6, x7, x8, x9, x10, x11, x12, x13] e) : w.cell? ⟨g, 0, none⟩ = some x0 ∧ w.cell? ⟨g, 1, none⟩ = some x1 ∧ w.cell? ⟨g, 2, none⟩ = some x2 ∧ w.cell? ⟨g, 3, none⟩ = some x3 ∧ w.cell? ⟨g, 4, none⟩ = some x4 ∧ w.cell? ⟨g, 5, none⟩ = some x5 ∧ w.cell? ⟨g, 6, none⟩ = some x6 ∧ w.cell? ⟨g, 7, none⟩ = some x7 ∧ w.cell? ⟨g, 8, none⟩ = some x8 ∧ w.cell? ⟨g, 9, none⟩ = some x9 ∧ w.cell? ⟨g, 10, none⟩ = some x10 ∧ w.cell? ⟨g, 11, none⟩ = some x11 ∧ w.cell? ⟨g, 12, none⟩ = some x12 ∧ w.cell? ⟨g, 13, none⟩ = some x13 ∧ ∀ o, w.frozen? ⟨g, o, none⟩ = false :=
  ⟨h.cell 0, h.cell 1, h.cell 2, h.cell 3, h.cell 4, h.cell 5, h.cell 6, h.cell 7, h.cell 8, h.cell 9, h.cell 10, h.cell 11, h.cell 12, h.cell 13, h.frozen⟩
end Go.Proofs.Ybulkawpe
