import Derived.Test.YbulkawpsFmtReader
/- 'Reader.place' (func 10) at lines that are no Join, where no Join is pending. -/
namespace Go.Proofs.YbulkawpsFmt
open Go.RowKit
set_option linter.unusedVariables false
set_option maxRecDepth 100000
def ptrR (v : Value) : Option (DataW Unit × List MemPlace) := match v with
  | .pointer none => some (.nil, [])
  | _ => none
theorem ptrR_inv {v : Value} {z : DataW Unit × List MemPlace} (h : ptrR v = some z) : v = .pointer none := by
  unfold ptrR at h
  split at h
  · rfl
  · cases h
theorem key9 (s : ByteArray) (hs : s.size ≤ maxLen) : keyOf Ybaf.prog 9 (.string s) = some (.string s.data.toList) := by
  simp [keyOf, mapKey, Ybaf.underlying9, hs]
theorem joins_empty {W : World} {mj n : Nat} (h : W.ownsMap Ybaf.prog 9 ptrR mj n (.map [])) (s : ByteArray) (hs : s.size ≤ maxLen) : (Instr.lookup 37 (.map (some mj)) (.string s) false).run Ybaf.prog W = .ok (.pointer none) W := by
  have hz : (zeroValue 41).run Ybaf.prog W = .ok (.pointer none) W := by kernel_rfl
  obtain ⟨v, ps, hr, hv⟩ := h.lookup (Maps.string_keyed Ybaf.underlying9) Ybaf.underlying37 hz (zd := .nil) (zp := []) rfl (key9 s hs)
  rw [ptrR_inv hv] at hr
  exact hr
theorem BySl.back {w : World} {lo g n cap : Nat} {s : ByteArray} (h : BySl w lo (.slice (some ⟨g, 0, none⟩) n cap) s.data.toList) (hn : n = s.data.toList.length) : (convert 33 9 (.slice (some ⟨g, 0, none⟩) n cap)).run Ybaf.prog w = .ok (.string s) w := by
  subst hn
  have := run_convert_bytes_back w 33 9 5 ⟨g, 0, none⟩ cap s.data.toList Ybaf.underlying33 Ybaf.underlying5 Ybaf.underlying9 (fun j hj => by rw [Addr.add_lit, Nat.zero_add]; exact h.cell (List.getElem?_eq_getElem hj))
  simpa using this
/-- the reader, nothing pending -/
structure Rdr (wr : World) (base r ms mw mj ma ns nw : Nat) (tv qv : Value) (L : List It) (Ds Dw : DataW Unit) : Prop where
  blk : Blk wr r #[.string ⟨#[]⟩, .pointer none, tv, qv, .int .i64 0, .int .i64 0, .nilIface, .map (some ms), .map (some mw), .map (some mj), .map (some ma)] 40
  q : wr.ownsRow base 30 6 qv L.length (itF L)
  t : ∃ xt, BRow wr base tv xt
  st : wr.ownsMap Ybaf.prog 9 (plainElem Ybaf.prog 4) ms ns Ds
  wa : wr.ownsMap Ybaf.prog 9 (plainElem Ybaf.prog 4) mw nw Dw
  jo : wr.ownsMap Ybaf.prog 9 ptrR mj 0 (.map [])
  aw : wr.ownsMap Ybaf.prog 9 ptrR ma 0 (.map [])
  lo : base ≤ wr.heap.size
theorem map_fr {S : Nat → Prop} {w w' : World} {P : Program} {k : TypeId} {R : Value → Option (DataW Unit × List MemPlace)} {b n : Nat} {D : DataW Unit} (h : w.ownsMap P k R b n D) (f : Fr S w w') (hS : ¬ S b) : w'.ownsMap P k R b n D := by
  obtain ⟨es, cl, hm, r⟩ := h
  exact ⟨es, cl, (f.block b (Array.getElem?_eq_some_iff.1 hm).1 hS).trans hm, r⟩
theorem Rdr.below {wr w' : World} {base r ms mw mj ma ns nw : Nat} {tv qv : Value} {L : List It} {Ds Dw : DataW Unit} (h : Rdr wr base r ms mw mj ma ns nw tv qv L Ds Dw) (hb : Below wr.heap.size wr w') : Rdr w' base r ms mw mj ma ns nw tv qv L Ds Dw := by
  have f := Fr.of_grown hb
  obtain ⟨xt, ht⟩ := h.t
  exact ⟨h.blk.below hb h.blk.lt, row_fr h.q f (fun _ _ h => h), ⟨xt, row_fr ht f (fun _ _ h => h)⟩, map_fr h.st f (fun h => h), map_fr h.wa f (fun h => h), map_fr h.jo f (fun h => h), map_fr h.aw f (fun h => h), Nat.le_trans h.lo hb.size⟩
theorem map_ne {w : World} {P : Program} {k : TypeId} {R : Value → Option (DataW Unit × List MemPlace)} {b n : Nat} {D : DataW Unit} (h : w.ownsMap P k R b n D) {g : Nat} {c : Array Value} {e : TypeId} (hb : Blk w g c e) : g ≠ b := by
  rintro rfl
  obtain ⟨es, cl, hm, _⟩ := h
  unfold Blk at hb
  rw [hb] at hm
  cases hm
theorem Rdr.event {w w' : World} {base r ms mw mj ma ns nw : Nat} {tv tv' qv : Value} {L : List It} {Ds Dw : DataW Unit} {xt' : List UInt8} (h : Rdr w base r ms mw mj ma ns nw tv qv L Ds Dw)
    (hb : Blk w' r #[.string ⟨#[]⟩, .pointer none, tv', qv, .int .i64 0, .int .i64 0, .nilIface, .map (some ms), .map (some mw), .map (some mj), .map (some ma)] 40) (ht : BRow w' base tv' xt') (f : Fr (fun j => j = r ∨ S5 base w j) w w') : Rdr w' base r ms mw mj ma ns nw tv' qv L Ds Dw := by
  have key : ∀ {k : TypeId} {R : Value → Option (DataW Unit × List MemPlace)} {b n : Nat} {D : DataW Unit}, w.ownsMap Ybaf.prog k R b n D → ¬ (b = r ∨ S5 base w b) := by
    intro k R b n D hm hS
    rcases hS with hS | ⟨_, c, hS⟩
    · exact map_ne hm h.blk hS.symm
    · exact map_ne hm hS rfl
  refine ⟨hb, row_fr h.q f (fun g hg hS => ?_), ⟨xt', ht⟩, map_fr h.st f (key h.st), map_fr h.wa f (key h.wa), map_fr h.jo f (key h.jo), map_fr h.aw f (key h.aw), Nat.le_trans h.lo f.size⟩
  rcases hS with hS | ⟨_, c, hS⟩
  · exact row_ne h.q h.blk (by decide) (by rw [hg, hS])
  · exact row_ne h.q hS (by decide) hg
theorem Rdr.push {w w' : World} {base r ms mw mj ma ns nw g cap : Nat} {tv qv : Value} {L : List It} {it : It} {Ds Dw : DataW Unit} (h : Rdr w base r ms mw mj ma ns nw tv qv L Ds Dw)
    (hb : Blk w' r #[.string ⟨#[]⟩, .pointer none, tv, .slice (some ⟨g, 0, none⟩) (L ++ [it]).length cap, .int .i64 0, .int .i64 0, .nilIface, .map (some ms), .map (some mw), .map (some mj), .map (some ma)] 40) (hq : ItRow w' base g cap (L ++ [it])) (f : Fr (fun j => j = r ∨ qv.ownBlock = some j) w w') :
    Rdr w' base r ms mw mj ma ns nw tv (.slice (some ⟨g, 0, none⟩) (L ++ [it]).length cap) (L ++ [it]) Ds Dw := by
  have key : ∀ {k : TypeId} {R : Value → Option (DataW Unit × List MemPlace)} {b n : Nat} {D : DataW Unit}, w.ownsMap Ybaf.prog k R b n D → ¬ (b = r ∨ qv.ownBlock = some b) := by
    intro k R b n D hm hS
    rcases hS with hS | hS
    · exact map_ne hm h.blk hS.symm
    · obtain ⟨_, _, _, _, hb', _⟩ := row_blk h.q hS
      exact map_ne hm hb' rfl
  obtain ⟨xt, ht⟩ := h.t
  refine ⟨hb, hq, ⟨xt, row_fr ht f (fun g hg hS => ?_)⟩, map_fr h.st f (key h.st), map_fr h.wa f (key h.wa), map_fr h.jo f (key h.jo), map_fr h.aw f (key h.aw), Nat.le_trans h.lo f.size⟩
  rcases hS with hS | hS
  · exact row_ne ht h.blk (by decide) (by rw [hg, hS])
  · exact row_ne_row ht h.q (by decide) hg hS
theorem S5.back {base j : Nat} {w w' : World} (h : S5 base w' j) (hb : Below w.heap.size w w') (hj : j < w.heap.size) : S5 base w j := by
  obtain ⟨h1, c, h2⟩ := h
  exact ⟨h1, c, by unfold Blk at h2 ⊢; rw [← hb.block j hj]; exact h2⟩
set_option maxHeartbeats 4000000 in
theorem place0 (base r ms mw mj ma ns nw lo : Nat) (tv qv : Value) (L : List It) (Ds Dw : DataW Unit) (k : Nat) (n : Int) (nv av : Value) (t nm : ByteArray) (na oa la : Option Addr) (nl nc tg tc ac on oc ln lc an : Nat) (aa : Option Addr) (oB lB : List UInt8) (w : World)
    (hR : Rdr w base r ms mw mj ma ns nw tv qv L Ds Dw) (hN : Names w) (ht : t.size = 1) (h1 : 1 ≤ k) (h2 : k ≤ 8) (hs : nmL[k]? = some nm) (ho : oB.length ≤ 1) (hl : lB.length ≤ 2) (hb0 : 0 < base) (hLn : L.length < 100000) (o' l' : ByteArray) (ho' : o'.data.toList = tOf 0 ++ oB) (hl' : l'.data.toList = lB)
    (hT : BySl w lo (.slice (some ⟨tg, 0, none⟩) 1 tc) t.data.toList) (hO : BySl w lo (.slice oa on oc) oB) (hL : BySl w lo (.slice la ln lc) lB) :
    Calls Ybaf.prog 10 #[.pointer (some ⟨r, 0, none⟩), .agg #[.int .u8 k, .int .u8 0, .slice na nl nc, .slice aa an ac, .slice (some ⟨tg, 0, none⟩) 1 tc, .slice oa on oc, .slice la ln lc], .int .i64 n] w fun e w' => e = .returned (.tuple #[]) ∧ ∃ tv' qv', Rdr w' base r ms mw mj ma ns nw tv' qv' (L ++ [evItem n t nm o' l' k]) Ds Dw ∧ Fr (fun j => j = r ∨ qv.ownBlock = some j ∨ S5 base w j) w w' ∧ ∀ g, qv'.ownBlock = some g → qv.ownBlock = some g ∨ w.heap.size ≤ g := by
  have hmax : t.size ≤ maxLen := by rw [ht]; unfold maxLen; omega
  have HTL : Hid (1 = t.data.toList.length) := by
    have h : t.data.toList.length = 1 := by rw [Array.length_toList]; exact ht
    exact h.symm
  have hR1 := hR.below ((Below.refl _ w).alloc (Nat.le_refl _) (.cells #[.int .u8 k, .int .u8 0, .slice na nl nc, .slice aa an ac, .slice (some ⟨tg, 0, none⟩) 1 tc, .slice oa on oc, .slice la ln lc] 59))
  have hB1 := Blk.new w #[.int .u8 k, .int .u8 0, .slice na nl nc, .slice aa an ac, .slice (some ⟨tg, 0, none⟩) 1 tc, .slice oa on oc, .slice la ln lc] 59
  have hT1 := hT.alloc (.cells #[.int .u8 k, .int .u8 0, .slice na nl nc, .slice aa an ac, .slice (some ⟨tg, 0, none⟩) 1 tc, .slice oa on oc, .slice la ln lc] 59)
  go_enter Ybaf.func10, Ybaf.ntmps10
  go_upto_region 1 with fail
  have hwb := (Below.refl _ w).alloc (Nat.le_refl _) (.cells #[.int .u8 k, .int .u8 0, .slice na nl nc, .slice aa an ac, .slice (some ⟨tg, 0, none⟩) 1 tc, .slice oa on oc, .slice la ln lc] 59)
  generalize (w.alloc (.cells #[.int .u8 k, .int .u8 0, .slice na nl nc, .slice aa an ac, .slice (some ⟨tg, 0, none⟩) 1 tc, .slice oa on oc, .slice la ln lc] 59)) = w1 at hR1 hB1 hT1 hwb ⊢
  have hcv := fun m => BySl.back (w := w1.drewN m) (lo := lo) (s := t) (hT1.below (bdrewN (Below.refl _ w1) m)) HTL.out
  have hlk := fun m => joins_empty (W := w1.drewN m) (mj := mj) (n := 0) hR1.jo t hmax
  obtain ⟨x0, x1, x2, x3, x4, x5, x6, x7, x8, x9, x10, fx⟩ := hR1.blk.cells11
  obtain ⟨b0, b1, b2, b3, b4, b5, b6, bf⟩ := hB1.cells7
  have HO := hid hO
  have HLo := hid hL
  have HT1 := hid hT1
  have hw1 : Below w.heap.size w w1 := hwb
  go_quiet (fail)
  have HR2 : Hid (Rdr (w1.drewN nq) base r ms mw mj ma ns nw tv qv L Ds Dw) := hR1.below (bdrewN (Below.refl _ w1) nq)
  have HT2 := hid (HT1.out.below (bdrewN (Below.refl _ w1) nq))
  have HO2 := hid ((HO.out.below hw1).below (bdrewN (Below.refl _ w1) nq))
  have HL2 := hid ((HLo.out.below hw1).below (bdrewN (Below.refl _ w1) nq))
  have HN2 := hid ((hN.below hw1).below (bdrewN (Below.refl _ w1) nq))
  have HB2 := hid (hB1.drewN nq)
  have HF2 : Hid (Below w.heap.size w (w1.drewN nq)) := bdrewN hw1 nq
  clear hcv hlk x0 x1 x2 x3 x4 x5 x6 x7 x8 x9 x10 fx b0 b1 b2 b3 b4 b5 b6 bf hR1 hB1 HT1 HO HLo hR hN hT hO hL
  generalize (w1.drewN nq) = w2 at *
  obtain ⟨b0, b1, b2, b3, b4, b5, b6, bf⟩ := HB2.out.cells7
  go_wp2_with fail
  refine (ran_empty r ma 0 n (.map []) ptrR _ _ _ _ _ _ _ _ _ _ _ w2 HR2.out.blk HR2.out.aw rfl).mono ?_
  rintro e w3 ⟨rfl, hb3⟩
  have HR3 := hid (HR2.out.below hb3)
  have HT3 := hid (HT2.out.below hb3)
  have HO3 := hid (HO2.out.below hb3)
  have HL3 := hid (HL2.out.below hb3)
  have HN3 := hid (HN2.out.below hb3)
  have HB3 := hid (HB2.out.below hb3 HB2.out.lt)
  have HF3 : Hid (Below w.heap.size w w3) := HF2.out.trans (hb3.mono HF2.out.size)
  clear b0 b1 b2 b3 b4 b5 b6 bf hb3 HR2 HT2 HO2 HL2 HN2 HB2
  obtain ⟨b0, b1, b2, b3, b4, b5, b6, bf⟩ := HB3.out.cells7
  obtain ⟨xt, hxt⟩ := HR3.out.t
  have HXT := hid hxt
  clear hxt
  go_wp2_with fail
  refine (event_any r base lo tv qv xt n k 0 k nm t oB lB na oa la nl nc tg tc ac on oc ln lc an aa 0 0 _ _ _ _ _ _ _ w3 HR3.out.blk HXT.out HN3.out h1 h2 hs ht ho hl HR3.out.lo hb0 o' l' ho' hl' HT3.out HO3.out HL3.out).mono ?_
  rintro e w4 ⟨tv', xt', rfl, hr4, ht4, fr4⟩
  have HR4 := hid (HR3.out.event hr4 ht4 fr4)
  have HF4 : Hid (Fr (fun j => j = r ∨ qv.ownBlock = some j ∨ S5 base w j) w w4) := ((Fr.of_grown HF3.out).mono (fun _ _ h => h.elim)).trans fr4 (fun j hj hS => by
    rcases hS with hS | hS
    · exact Or.inl hS
    · exact Or.inr (Or.inr (hS.back HF3.out hj)))
  clear hr4 ht4 fr4 b0 b1 b2 b3 b4 b5 b6 bf HR3 HT3 HO3 HL3 HN3 HB3
  go_wp2_with fail
  refine (push_any r base qv L (evItem n t nm o' l' k) 0 0 _ _ _ _ _ _ _ _ w4 HR4.out.blk HR4.out.q hLn HR4.out.lo).mono ?_
  rintro e w5 ⟨g5, cap5, rfl, hr5, hq5, fr5, hg5⟩
  have HR5 := hid (HR4.out.push hr5 hq5 fr5)
  have HF5 : Hid (Fr (fun j => j = r ∨ qv.ownBlock = some j ∨ S5 base w j) w w5) := HF4.out.trans fr5 (fun j hj hS => by
    rcases hS with hS | hS
    · exact Or.inl hS
    · exact Or.inr (Or.inl hS))
  have HG5 : Hid (qv.ownBlock = some g5 ∨ w.heap.size ≤ g5) := by
    have := HF4.out.size
    rcases hg5 with h | h
    · exact Or.inl h
    · exact Or.inr (by omega)
  clear hr5 hq5 fr5 hg5
  go_wp2
  go_end0
  exact ⟨rfl, _, _, HR5.out, HF5.out, fun g hg => by simp [Value.ownBlock] at hg; subst hg; exact HG5.out⟩
set_option maxHeartbeats 4000000 in
theorem place2 (base r ms mw mj ma ns nw lo : Nat) (tv qv : Value) (L : List It) (Ds Dw : DataW Unit) (k : Nat) (n : Int) (nv av : Value) (t nm : ByteArray) (na oa la : Option Addr) (nl nc tg tc ac on oc ln lc an : Nat) (aa : Option Addr) (oB lB : List UInt8) (w : World)
    (hR : Rdr w base r ms mw mj ma ns nw tv qv L Ds Dw) (hN : Names w) (ht : t.size = 1) (h1 : 1 ≤ k) (h2 : k ≤ 8) (hs : nmL[k]? = some nm) (ho : oB.length ≤ 1) (hl : lB.length ≤ 2) (hb0 : 0 < base) (hLn : L.length < 100000) (o' l' : ByteArray) (ho' : o'.data.toList = tOf 2 ++ oB) (hl' : l'.data.toList = lB)
    (hT : BySl w lo (.slice (some ⟨tg, 0, none⟩) 1 tc) t.data.toList) (hO : BySl w lo (.slice oa on oc) oB) (hL : BySl w lo (.slice la ln lc) lB) :
    Calls Ybaf.prog 10 #[.pointer (some ⟨r, 0, none⟩), .agg #[.int .u8 k, .int .u8 2, .slice na nl nc, .slice aa an ac, .slice (some ⟨tg, 0, none⟩) 1 tc, .slice oa on oc, .slice la ln lc], .int .i64 n] w fun e w' => e = .returned (.tuple #[]) ∧ ∃ tv' qv', Rdr w' base r ms mw mj ma ns nw tv' qv' (L ++ [evItem n t nm o' l' k]) Ds Dw ∧ Fr (fun j => j = r ∨ qv.ownBlock = some j ∨ S5 base w j) w w' ∧ ∀ g, qv'.ownBlock = some g → qv.ownBlock = some g ∨ w.heap.size ≤ g := by
  have hmax : t.size ≤ maxLen := by rw [ht]; unfold maxLen; omega
  have HTL : Hid (1 = t.data.toList.length) := by
    have h : t.data.toList.length = 1 := by rw [Array.length_toList]; exact ht
    exact h.symm
  have hR1 := hR.below ((Below.refl _ w).alloc (Nat.le_refl _) (.cells #[.int .u8 k, .int .u8 2, .slice na nl nc, .slice aa an ac, .slice (some ⟨tg, 0, none⟩) 1 tc, .slice oa on oc, .slice la ln lc] 59))
  have hB1 := Blk.new w #[.int .u8 k, .int .u8 2, .slice na nl nc, .slice aa an ac, .slice (some ⟨tg, 0, none⟩) 1 tc, .slice oa on oc, .slice la ln lc] 59
  have hT1 := hT.alloc (.cells #[.int .u8 k, .int .u8 2, .slice na nl nc, .slice aa an ac, .slice (some ⟨tg, 0, none⟩) 1 tc, .slice oa on oc, .slice la ln lc] 59)
  go_enter Ybaf.func10, Ybaf.ntmps10
  go_upto_region 1 with fail
  have hwb := (Below.refl _ w).alloc (Nat.le_refl _) (.cells #[.int .u8 k, .int .u8 2, .slice na nl nc, .slice aa an ac, .slice (some ⟨tg, 0, none⟩) 1 tc, .slice oa on oc, .slice la ln lc] 59)
  generalize (w.alloc (.cells #[.int .u8 k, .int .u8 2, .slice na nl nc, .slice aa an ac, .slice (some ⟨tg, 0, none⟩) 1 tc, .slice oa on oc, .slice la ln lc] 59)) = w1 at hR1 hB1 hT1 hwb ⊢
  have hcv := fun m => BySl.back (w := w1.drewN m) (lo := lo) (s := t) (hT1.below (bdrewN (Below.refl _ w1) m)) HTL.out
  have hlk := fun m => joins_empty (W := w1.drewN m) (mj := mj) (n := 0) hR1.jo t hmax
  obtain ⟨x0, x1, x2, x3, x4, x5, x6, x7, x8, x9, x10, fx⟩ := hR1.blk.cells11
  obtain ⟨b0, b1, b2, b3, b4, b5, b6, bf⟩ := hB1.cells7
  have HO := hid hO
  have HLo := hid hL
  have HT1 := hid hT1
  have hw1 : Below w.heap.size w w1 := hwb
  go_quiet (fail)
  have HR2 : Hid (Rdr (w1.drewN nq) base r ms mw mj ma ns nw tv qv L Ds Dw) := hR1.below (bdrewN (Below.refl _ w1) nq)
  have HT2 := hid (HT1.out.below (bdrewN (Below.refl _ w1) nq))
  have HO2 := hid ((HO.out.below hw1).below (bdrewN (Below.refl _ w1) nq))
  have HL2 := hid ((HLo.out.below hw1).below (bdrewN (Below.refl _ w1) nq))
  have HN2 := hid ((hN.below hw1).below (bdrewN (Below.refl _ w1) nq))
  have HB2 := hid (hB1.drewN nq)
  have HF2 : Hid (Below w.heap.size w (w1.drewN nq)) := bdrewN hw1 nq
  clear hcv hlk x0 x1 x2 x3 x4 x5 x6 x7 x8 x9 x10 fx b0 b1 b2 b3 b4 b5 b6 bf hR1 hB1 HT1 HO HLo hR hN hT hO hL
  generalize (w1.drewN nq) = w2 at *
  obtain ⟨b0, b1, b2, b3, b4, b5, b6, bf⟩ := HB2.out.cells7
  go_wp2_with fail
  refine (ran_empty r ma 0 n (.map []) ptrR _ _ _ _ _ _ _ _ _ _ _ w2 HR2.out.blk HR2.out.aw rfl).mono ?_
  rintro e w3 ⟨rfl, hb3⟩
  have HR3 := hid (HR2.out.below hb3)
  have HT3 := hid (HT2.out.below hb3)
  have HO3 := hid (HO2.out.below hb3)
  have HL3 := hid (HL2.out.below hb3)
  have HN3 := hid (HN2.out.below hb3)
  have HB3 := hid (HB2.out.below hb3 HB2.out.lt)
  have HF3 : Hid (Below w.heap.size w w3) := HF2.out.trans (hb3.mono HF2.out.size)
  clear b0 b1 b2 b3 b4 b5 b6 bf hb3 HR2 HT2 HO2 HL2 HN2 HB2
  obtain ⟨b0, b1, b2, b3, b4, b5, b6, bf⟩ := HB3.out.cells7
  obtain ⟨xt, hxt⟩ := HR3.out.t
  have HXT := hid hxt
  clear hxt
  go_wp2_with fail
  refine (event_any r base lo tv qv xt n k 2 k nm t oB lB na oa la nl nc tg tc ac on oc ln lc an aa 0 0 _ _ _ _ _ _ _ w3 HR3.out.blk HXT.out HN3.out h1 h2 hs ht ho hl HR3.out.lo hb0 o' l' ho' hl' HT3.out HO3.out HL3.out).mono ?_
  rintro e w4 ⟨tv', xt', rfl, hr4, ht4, fr4⟩
  have HR4 := hid (HR3.out.event hr4 ht4 fr4)
  have HF4 : Hid (Fr (fun j => j = r ∨ qv.ownBlock = some j ∨ S5 base w j) w w4) := ((Fr.of_grown HF3.out).mono (fun _ _ h => h.elim)).trans fr4 (fun j hj hS => by
    rcases hS with hS | hS
    · exact Or.inl hS
    · exact Or.inr (Or.inr (hS.back HF3.out hj)))
  clear hr4 ht4 fr4 b0 b1 b2 b3 b4 b5 b6 bf HR3 HT3 HO3 HL3 HN3 HB3
  go_wp2_with fail
  refine (push_any r base qv L (evItem n t nm o' l' k) 0 0 _ _ _ _ _ _ _ _ w4 HR4.out.blk HR4.out.q hLn HR4.out.lo).mono ?_
  rintro e w5 ⟨g5, cap5, rfl, hr5, hq5, fr5, hg5⟩
  have HR5 := hid (HR4.out.push hr5 hq5 fr5)
  have HF5 : Hid (Fr (fun j => j = r ∨ qv.ownBlock = some j ∨ S5 base w j) w w5) := HF4.out.trans fr5 (fun j hj hS => by
    rcases hS with hS | hS
    · exact Or.inl hS
    · exact Or.inr (Or.inl hS))
  have HG5 : Hid (qv.ownBlock = some g5 ∨ w.heap.size ≤ g5) := by
    have := HF4.out.size
    rcases hg5 with h | h
    · exact Or.inl h
    · exact Or.inr (by omega)
  clear hr5 hq5 fr5 hg5
  go_wp2
  go_end0
  exact ⟨rfl, _, _, HR5.out, HF5.out, fun g hg => by simp [Value.ownBlock] at hg; subst hg; exact HG5.out⟩
set_option maxHeartbeats 4000000 in
theorem place6 (base r ms mw mj ma ns nw lo : Nat) (tv qv : Value) (L : List It) (Ds Dw : DataW Unit) (k : Nat) (n : Int) (nv av : Value) (t nm : ByteArray) (na oa la : Option Addr) (nl nc tg tc ac on oc ln lc an : Nat) (aa : Option Addr) (oB lB : List UInt8) (w : World)
    (hR : Rdr w base r ms mw mj ma ns nw tv qv L Ds Dw) (hN : Names w) (ht : t.size = 1) (h1 : 1 ≤ k) (h2 : k ≤ 8) (hs : nmL[k]? = some nm) (ho : oB.length ≤ 1) (hl : lB.length ≤ 2) (hb0 : 0 < base) (hLn : L.length < 100000) (o' l' : ByteArray) (ho' : o'.data.toList = tOf 6 ++ oB) (hl' : l'.data.toList = lB)
    (hT : BySl w lo (.slice (some ⟨tg, 0, none⟩) 1 tc) t.data.toList) (hO : BySl w lo (.slice oa on oc) oB) (hL : BySl w lo (.slice la ln lc) lB) :
    Calls Ybaf.prog 10 #[.pointer (some ⟨r, 0, none⟩), .agg #[.int .u8 k, .int .u8 6, .slice na nl nc, .slice aa an ac, .slice (some ⟨tg, 0, none⟩) 1 tc, .slice oa on oc, .slice la ln lc], .int .i64 n] w fun e w' => e = .returned (.tuple #[]) ∧ ∃ tv' qv', Rdr w' base r ms mw mj ma ns nw tv' qv' (L ++ [evItem n t nm o' l' k]) Ds Dw ∧ Fr (fun j => j = r ∨ qv.ownBlock = some j ∨ S5 base w j) w w' ∧ ∀ g, qv'.ownBlock = some g → qv.ownBlock = some g ∨ w.heap.size ≤ g := by
  have hmax : t.size ≤ maxLen := by rw [ht]; unfold maxLen; omega
  have HTL : Hid (1 = t.data.toList.length) := by
    have h : t.data.toList.length = 1 := by rw [Array.length_toList]; exact ht
    exact h.symm
  have hR1 := hR.below ((Below.refl _ w).alloc (Nat.le_refl _) (.cells #[.int .u8 k, .int .u8 6, .slice na nl nc, .slice aa an ac, .slice (some ⟨tg, 0, none⟩) 1 tc, .slice oa on oc, .slice la ln lc] 59))
  have hB1 := Blk.new w #[.int .u8 k, .int .u8 6, .slice na nl nc, .slice aa an ac, .slice (some ⟨tg, 0, none⟩) 1 tc, .slice oa on oc, .slice la ln lc] 59
  have hT1 := hT.alloc (.cells #[.int .u8 k, .int .u8 6, .slice na nl nc, .slice aa an ac, .slice (some ⟨tg, 0, none⟩) 1 tc, .slice oa on oc, .slice la ln lc] 59)
  go_enter Ybaf.func10, Ybaf.ntmps10
  go_upto_region 1 with fail
  have hwb := (Below.refl _ w).alloc (Nat.le_refl _) (.cells #[.int .u8 k, .int .u8 6, .slice na nl nc, .slice aa an ac, .slice (some ⟨tg, 0, none⟩) 1 tc, .slice oa on oc, .slice la ln lc] 59)
  generalize (w.alloc (.cells #[.int .u8 k, .int .u8 6, .slice na nl nc, .slice aa an ac, .slice (some ⟨tg, 0, none⟩) 1 tc, .slice oa on oc, .slice la ln lc] 59)) = w1 at hR1 hB1 hT1 hwb ⊢
  have hcv := fun m => BySl.back (w := w1.drewN m) (lo := lo) (s := t) (hT1.below (bdrewN (Below.refl _ w1) m)) HTL.out
  have hlk := fun m => joins_empty (W := w1.drewN m) (mj := mj) (n := 0) hR1.jo t hmax
  obtain ⟨x0, x1, x2, x3, x4, x5, x6, x7, x8, x9, x10, fx⟩ := hR1.blk.cells11
  obtain ⟨b0, b1, b2, b3, b4, b5, b6, bf⟩ := hB1.cells7
  have HO := hid hO
  have HLo := hid hL
  have HT1 := hid hT1
  have hw1 : Below w.heap.size w w1 := hwb
  go_quiet (fail)
  have HR2 : Hid (Rdr (w1.drewN nq) base r ms mw mj ma ns nw tv qv L Ds Dw) := hR1.below (bdrewN (Below.refl _ w1) nq)
  have HT2 := hid (HT1.out.below (bdrewN (Below.refl _ w1) nq))
  have HO2 := hid ((HO.out.below hw1).below (bdrewN (Below.refl _ w1) nq))
  have HL2 := hid ((HLo.out.below hw1).below (bdrewN (Below.refl _ w1) nq))
  have HN2 := hid ((hN.below hw1).below (bdrewN (Below.refl _ w1) nq))
  have HB2 := hid (hB1.drewN nq)
  have HF2 : Hid (Below w.heap.size w (w1.drewN nq)) := bdrewN hw1 nq
  clear hcv hlk x0 x1 x2 x3 x4 x5 x6 x7 x8 x9 x10 fx b0 b1 b2 b3 b4 b5 b6 bf hR1 hB1 HT1 HO HLo hR hN hT hO hL
  generalize (w1.drewN nq) = w2 at *
  obtain ⟨b0, b1, b2, b3, b4, b5, b6, bf⟩ := HB2.out.cells7
  have HR3 := HR2
  have HT3 := HT2
  have HO3 := HO2
  have HL3 := HL2
  have HN3 := HN2
  have HB3 := HB2
  have HF3 := HF2
  obtain ⟨w3, hw3⟩ : ∃ x, x = w2 := ⟨_, rfl⟩
  subst hw3
  clear b0 b1 b2 b3 b4 b5 b6 bf HR2 HT2 HO2 HL2 HN2 HB2
  obtain ⟨b0, b1, b2, b3, b4, b5, b6, bf⟩ := HB3.out.cells7
  obtain ⟨xt, hxt⟩ := HR3.out.t
  have HXT := hid hxt
  clear hxt
  go_wp2_with fail
  refine (event_any r base lo tv qv xt n k 6 k nm t oB lB na oa la nl nc tg tc ac on oc ln lc an aa 0 0 _ _ _ _ _ _ _ w3 HR3.out.blk HXT.out HN3.out h1 h2 hs ht ho hl HR3.out.lo hb0 o' l' ho' hl' HT3.out HO3.out HL3.out).mono ?_
  rintro e w4 ⟨tv', xt', rfl, hr4, ht4, fr4⟩
  have HR4 := hid (HR3.out.event hr4 ht4 fr4)
  have HF4 : Hid (Fr (fun j => j = r ∨ qv.ownBlock = some j ∨ S5 base w j) w w4) := ((Fr.of_grown HF3.out).mono (fun _ _ h => h.elim)).trans fr4 (fun j hj hS => by
    rcases hS with hS | hS
    · exact Or.inl hS
    · exact Or.inr (Or.inr (hS.back HF3.out hj)))
  clear hr4 ht4 fr4 b0 b1 b2 b3 b4 b5 b6 bf HR3 HT3 HO3 HL3 HN3 HB3
  go_wp2_with fail
  refine (push_any r base qv L (evItem n t nm o' l' k) 0 0 _ _ _ _ _ _ _ _ w4 HR4.out.blk HR4.out.q hLn HR4.out.lo).mono ?_
  rintro e w5 ⟨g5, cap5, rfl, hr5, hq5, fr5, hg5⟩
  have HR5 := hid (HR4.out.push hr5 hq5 fr5)
  have HF5 : Hid (Fr (fun j => j = r ∨ qv.ownBlock = some j ∨ S5 base w j) w w5) := HF4.out.trans fr5 (fun j hj hS => by
    rcases hS with hS | hS
    · exact Or.inl hS
    · exact Or.inr (Or.inl hS))
  have HG5 : Hid (qv.ownBlock = some g5 ∨ w.heap.size ≤ g5) := by
    have := HF4.out.size
    rcases hg5 with h | h
    · exact Or.inl h
    · exact Or.inr (by omega)
  clear hr5 hq5 fr5 hg5
  go_wp2
  go_end0
  exact ⟨rfl, _, _, HR5.out, HF5.out, fun g hg => by simp [Value.ownBlock] at hg; subst hg; exact HG5.out⟩
end Go.Proofs.YbulkawpsFmt
