import Derived.Test.YbulkawpsFmtBools
/- 'Reader.place' (func 10) at Start lines. -/
namespace Go.Proofs.YbulkawpsFmt
open Go.RowKit
set_option linter.unusedVariables false
set_option maxRecDepth 100000
theorem turn_fr {w w' : World} {b : Nat} (h : w.mapTurned w' b) : Fr (fun j => j = b) w w' := (Fr.refl _ w).grown h.grown (fun k e _ => by cases e; rfl)
theorem BySl.turn {w w' : World} {lo b n : Nat} {v : Value} {l : List UInt8} {P : Program} {k : TypeId} {R : Value → Option (DataW Unit × List MemPlace)} {D : DataW Unit} (h : BySl w lo v l) (hm : w.ownsMap P k R b n D) (ht : w.mapTurned w' b) : BySl w' lo v l :=
  h.fr (turn_fr ht) (fun g hg hS => by
    subst hS
    rcases h with ⟨h, _⟩ | ⟨g', cap, m, c, hv, hl, hh, hc⟩
    · rw [h] at hg; simp [Value.ownBlock] at hg
    · rw [hv] at hg; simp [Value.ownBlock] at hg
      subst hg
      obtain ⟨es, cl, hm, _⟩ := hm
      rw [hh] at hm
      cases hm)
theorem Names.turn {w w' : World} {b : Nat} (h : Names w) (ht : w.mapTurned w' b) (hb : 0 < b) : Names w' := fun i s hi =>
  (turn_fr ht).cell_some (h i s hi) (fun hS => by simp at hS; omega)
theorem Rdr.turnS {w w' : World} {base r ms mw mj ma ns nw ns' : Nat} {tv qv : Value} {L : List It} {Ds Dw Ds' : DataW Unit} (h : Rdr w base r ms mw mj ma ns nw tv qv L Ds Dw) (ht : w.mapTurned w' ms)
    (hm : w'.ownsMap Ybaf.prog 9 (plainElem Ybaf.prog 4) ms ns' Ds') (h1 : ms ≠ mw) (h2 : ms ≠ mj) (h3 : ms ≠ ma) : Rdr w' base r ms mw mj ma ns' nw tv qv L Ds' Dw := by
  have f := turn_fr ht
  obtain ⟨xt, hxt⟩ := h.t
  refine ⟨h.blk.fr f (map_ne h.st h.blk), row_fr h.q f (fun g hg hS => ?_), ⟨xt, row_fr hxt f (fun g hg hS => ?_)⟩, hm, map_fr h.wa f (fun e => h1 e.symm), map_fr h.jo f (fun e => h2 e.symm), map_fr h.aw f (fun e => h3 e.symm), Nat.le_trans h.lo f.size⟩
  · obtain ⟨_, _, _, _, hb, _⟩ := row_blk h.q hg
    exact map_ne h.st hb hS
  · obtain ⟨_, _, _, _, hb, _⟩ := row_blk hxt hg
    exact map_ne h.st hb hS
theorem Rdr.turnW {w w' : World} {base r ms mw mj ma ns nw nw' : Nat} {tv qv : Value} {L : List It} {Ds Dw Dw' : DataW Unit} (h : Rdr w base r ms mw mj ma ns nw tv qv L Ds Dw) (ht : w.mapTurned w' mw)
    (hm : w'.ownsMap Ybaf.prog 9 (plainElem Ybaf.prog 4) mw nw' Dw') (h1 : ms ≠ mw) (h2 : mw ≠ mj) (h3 : mw ≠ ma) : Rdr w' base r ms mw mj ma ns nw' tv qv L Ds Dw' := by
  have f := turn_fr ht
  obtain ⟨xt, hxt⟩ := h.t
  refine ⟨h.blk.fr f (map_ne h.wa h.blk), row_fr h.q f (fun g hg hS => ?_), ⟨xt, row_fr hxt f (fun g hg hS => ?_)⟩, map_fr h.st f h1, hm, map_fr h.jo f (fun e => h2 e.symm), map_fr h.aw f (fun e => h3 e.symm), Nat.le_trans h.lo f.size⟩
  · obtain ⟨_, _, _, _, hb, _⟩ := row_blk h.q hg
    exact map_ne h.wa hb hS
  · obtain ⟨_, _, _, _, hb, _⟩ := row_blk hxt hg
    exact map_ne h.wa hb hS
theorem Blk.turn {w w' : World} {g b n : Nat} {c : Array Value} {e : TypeId} {P : Program} {k : TypeId} {R : Value → Option (DataW Unit × List MemPlace)} {D : DataW Unit} (h : Blk w g c e) (hm : w.ownsMap P k R b n D) (ht : w.mapTurned w' b) : Blk w' g c e :=
  h.fr (turn_fr ht) (map_ne hm h)
theorem S5.turn {base b j : Nat} {w w' : World} (h : S5 base w' j) (ht : w.mapTurned w' b) (hj : j < w.heap.size) : j = b ∨ S5 base w j := by
  by_cases hb : j = b
  · exact Or.inl hb
  · obtain ⟨h1, c, h2⟩ := h
    exact Or.inr ⟨h1, c, by unfold Blk at h2 ⊢; rw [← (turn_fr ht).block j hj hb]; exact h2⟩
set_option maxHeartbeats 4000000 in
theorem place4t (base r ms mw mj ma ns nw lo : Nat) (tv qv : Value) (L : List It) (Ds Dw : DataW Unit) (k : Nat) (n : Int) (nv av : Value) (t nm : ByteArray) (na oa la : Option Addr) (nl nc tg tc ac on oc ln lc an : Nat) (aa : Option Addr) (oB lB : List UInt8) (w : World)
    (hR : Rdr w base r ms mw mj ma ns nw tv qv L Ds Dw) (hN : Names w) (ht : t.size = 1) (kk : ByteArray) (ag : Nat) (hkk : kk.data.toList.length = an) (hks : kk.size ≤ maxLen) (hnn : ns < maxLen) (hx : BAt Ds kk true) (hA : BySl w lo (.slice (some ⟨ag, 0, none⟩) an ac) kk.data.toList) (ho : oB.length ≤ 1) (hl : lB.length ≤ 2) (hb0 : 0 < base) (hLn : L.length < 100000) (o' l' : ByteArray) (ho' : o'.data.toList = tOf 4 ++ oB) (hl' : l'.data.toList = lB)
    (hT : BySl w lo (.slice (some ⟨tg, 0, none⟩) 1 tc) t.data.toList) (hO : BySl w lo (.slice oa on oc) oB) (hL : BySl w lo (.slice la ln lc) lB) :
    Calls Ybaf.prog 10 #[.pointer (some ⟨r, 0, none⟩), .agg #[.int .u8 k, .int .u8 4, .slice na nl nc, .slice (some ⟨ag, 0, none⟩) an ac, .slice (some ⟨tg, 0, none⟩) 1 tc, .slice oa on oc, .slice la ln lc], .int .i64 n] w fun e w' => e = .returned (.tuple #[]) ∧ Rdr w' base r ms mw mj ma ns nw tv qv L Ds Dw ∧ Below w.heap.size w w' := by
  have hmax : t.size ≤ maxLen := by rw [ht]; unfold maxLen; omega
  have HTL : Hid (1 = t.data.toList.length) := by
    have h : t.data.toList.length = 1 := by rw [Array.length_toList]; exact ht
    exact h.symm
  have hR1 := hR.below ((Below.refl _ w).alloc (Nat.le_refl _) (.cells #[.int .u8 k, .int .u8 4, .slice na nl nc, .slice (some ⟨ag, 0, none⟩) an ac, .slice (some ⟨tg, 0, none⟩) 1 tc, .slice oa on oc, .slice la ln lc] 59))
  have hB1 := Blk.new w #[.int .u8 k, .int .u8 4, .slice na nl nc, .slice (some ⟨ag, 0, none⟩) an ac, .slice (some ⟨tg, 0, none⟩) 1 tc, .slice oa on oc, .slice la ln lc] 59
  have hT1 := hT.alloc (.cells #[.int .u8 k, .int .u8 4, .slice na nl nc, .slice (some ⟨ag, 0, none⟩) an ac, .slice (some ⟨tg, 0, none⟩) 1 tc, .slice oa on oc, .slice la ln lc] 59)
  go_enter Ybaf.func10, Ybaf.ntmps10
  go_upto_region 1 with fail
  have hwb := (Below.refl _ w).alloc (Nat.le_refl _) (.cells #[.int .u8 k, .int .u8 4, .slice na nl nc, .slice (some ⟨ag, 0, none⟩) an ac, .slice (some ⟨tg, 0, none⟩) 1 tc, .slice oa on oc, .slice la ln lc] 59)
  generalize (w.alloc (.cells #[.int .u8 k, .int .u8 4, .slice na nl nc, .slice (some ⟨ag, 0, none⟩) an ac, .slice (some ⟨tg, 0, none⟩) 1 tc, .slice oa on oc, .slice la ln lc] 59)) = w1 at hR1 hB1 hT1 hwb ⊢
  have hcv := fun m => BySl.back (w := w1.drewN m) (lo := lo) (s := t) (hT1.below (bdrewN (Below.refl _ w1) m)) HTL.out
  have hlk := fun m => joins_empty (W := w1.drewN m) (mj := mj) (n := 0) hR1.jo t hmax
  obtain ⟨x0, x1, x2, x3, x4, x5, x6, x7, x8, x9, x10, fx⟩ := hR1.blk.cells11
  obtain ⟨b0, b1, b2, b3, b4, b5, b6, bf⟩ := hB1.cells7
  have HO := hid hO
  have HA := hid hA
  have HLo := hid hL
  have HT1 := hid hT1
  have hw1 : Below w.heap.size w w1 := hwb
  go_quiet (fail)
  have HR2 : Hid (Rdr (w1.drewN nq) base r ms mw mj ma ns nw tv qv L Ds Dw) := hR1.below (bdrewN (Below.refl _ w1) nq)
  have HT2 := hid (HT1.out.below (bdrewN (Below.refl _ w1) nq))
  have HO2 := hid ((HO.out.below hw1).below (bdrewN (Below.refl _ w1) nq))
  have HL2 := hid ((HLo.out.below hw1).below (bdrewN (Below.refl _ w1) nq))
  have HN2 := hid ((hN.below hw1).below (bdrewN (Below.refl _ w1) nq))
  have HB2 := hid (hB1.drewN nq)
  have HA2 := hid ((HA.out.below hw1).below (bdrewN (Below.refl _ w1) nq))
  have HF2 : Hid (Below w.heap.size w (w1.drewN nq)) := bdrewN hw1 nq
  clear hcv hlk x0 x1 x2 x3 x4 x5 x6 x7 x8 x9 x10 fx b0 b1 b2 b3 b4 b5 b6 bf hR1 hB1 HT1 HO HA HLo hR hN hT hO hL hA
  generalize (w1.drewN nq) = w2 at *
  obtain ⟨b0, b1, b2, b3, b4, b5, b6, bf⟩ := HB2.out.cells7
  have HX := hid hx
  have HKK := hid hkk
  clear hx hkk
  go_upto_region 29 with fail
  have hcv := fun m => BySl.back (w := w2.drewN m) (lo := lo) (s := kk) (HA2.out.below (bdrewN (Below.refl _ w2) m)) HKK.out.symm
  have hlk := fun m => bools_look (W := w2.drewN m) (b := ms) (n := ns) (D := Ds) HR2.out.st kk hks HX.out
  obtain ⟨x0, x1, x2, x3, x4, x5, x6, x7, x8, x9, x10, fx⟩ := HR2.out.blk.cells11
  go_quiet (fail)
  have HR3 : Hid (Rdr (w2.drewN nq) base r ms mw mj ma ns nw tv qv L Ds Dw) := HR2.out.below (bdrewN (Below.refl _ w2) nq)
  have HA3 := hid (HA2.out.below (bdrewN (Below.refl _ w2) nq))
  have HB3 := hid (HB2.out.drewN nq)
  clear hcv hlk x0 x1 x2 x3 x4 x5 x6 x7 x8 x9 x10 fx b0 b1 b2 b3 b4 b5 b6 bf
  have HF3 : Hid (Below w.heap.size w (w2.drewN nq)) := bdrewN HF2.out nq
  generalize (w2.drewN nq) = w3 at HR3 HA3 HB3 HF3 ⊢
  go_wp2
  go_end0
  exact ⟨rfl, HR3.out, HF3.out⟩
set_option maxHeartbeats 4000000 in
theorem place4f (base r ms mw mj ma ns nw lo : Nat) (tv qv : Value) (L : List It) (Ds Dw : DataW Unit) (k : Nat) (n : Int) (nv av : Value) (t nm : ByteArray) (na oa la : Option Addr) (nl nc tg tc ac on oc ln lc an : Nat) (aa : Option Addr) (oB lB : List UInt8) (w : World)
    (hR : Rdr w base r ms mw mj ma ns nw tv qv L Ds Dw) (hN : Names w) (ht : t.size = 1) (kk : ByteArray) (ag : Nat) (hkk : kk.data.toList.length = an) (hks : kk.size ≤ maxLen) (hnn : ns < maxLen) (hx : BAt Ds kk false) (hm0 : 0 < ms) (hm1 : ms ≠ mw) (hm2 : ms ≠ mj) (hm3 : ms ≠ ma) (hA : BySl w lo (.slice (some ⟨ag, 0, none⟩) an ac) kk.data.toList) (ho : oB.length ≤ 1) (hl : lB.length ≤ 2) (hb0 : 0 < base) (hLn : L.length < 100000) (o' l' : ByteArray) (ho' : o'.data.toList = tOf 4 ++ oB) (hl' : l'.data.toList = lB)
    (hT : BySl w lo (.slice (some ⟨tg, 0, none⟩) 1 tc) t.data.toList) (hO : BySl w lo (.slice oa on oc) oB) (hL : BySl w lo (.slice la ln lc) lB) :
    Calls Ybaf.prog 10 #[.pointer (some ⟨r, 0, none⟩), .agg #[.int .u8 k, .int .u8 4, .slice na nl nc, .slice (some ⟨ag, 0, none⟩) an ac, .slice (some ⟨tg, 0, none⟩) 1 tc, .slice oa on oc, .slice la ln lc], .int .i64 n] w fun e w' => e = .returned (.tuple #[]) ∧ ∃ tv' qv', Rdr w' base r ms mw mj ma (ns + 1) nw tv' qv' (L ++ [evItem n t ⟨#[102, 111, 114, 107]⟩ o' l' 5]) (Ds.put (.string kk.data.toList) (.lit (.bool true))) Dw ∧ Fr (fun j => j = ms ∨ j = r ∨ qv.ownBlock = some j ∨ S5 base w j) w w' ∧ ∀ g, qv'.ownBlock = some g → qv.ownBlock = some g ∨ w.heap.size ≤ g := by
  have hmax : t.size ≤ maxLen := by rw [ht]; unfold maxLen; omega
  have HTL : Hid (1 = t.data.toList.length) := by
    have h : t.data.toList.length = 1 := by rw [Array.length_toList]; exact ht
    exact h.symm
  have hR1 := hR.below ((Below.refl _ w).alloc (Nat.le_refl _) (.cells #[.int .u8 k, .int .u8 4, .slice na nl nc, .slice (some ⟨ag, 0, none⟩) an ac, .slice (some ⟨tg, 0, none⟩) 1 tc, .slice oa on oc, .slice la ln lc] 59))
  have hB1 := Blk.new w #[.int .u8 k, .int .u8 4, .slice na nl nc, .slice (some ⟨ag, 0, none⟩) an ac, .slice (some ⟨tg, 0, none⟩) 1 tc, .slice oa on oc, .slice la ln lc] 59
  have hT1 := hT.alloc (.cells #[.int .u8 k, .int .u8 4, .slice na nl nc, .slice (some ⟨ag, 0, none⟩) an ac, .slice (some ⟨tg, 0, none⟩) 1 tc, .slice oa on oc, .slice la ln lc] 59)
  go_enter Ybaf.func10, Ybaf.ntmps10
  go_upto_region 1 with fail
  have hwb := (Below.refl _ w).alloc (Nat.le_refl _) (.cells #[.int .u8 k, .int .u8 4, .slice na nl nc, .slice (some ⟨ag, 0, none⟩) an ac, .slice (some ⟨tg, 0, none⟩) 1 tc, .slice oa on oc, .slice la ln lc] 59)
  generalize (w.alloc (.cells #[.int .u8 k, .int .u8 4, .slice na nl nc, .slice (some ⟨ag, 0, none⟩) an ac, .slice (some ⟨tg, 0, none⟩) 1 tc, .slice oa on oc, .slice la ln lc] 59)) = w1 at hR1 hB1 hT1 hwb ⊢
  have hcv := fun m => BySl.back (w := w1.drewN m) (lo := lo) (s := t) (hT1.below (bdrewN (Below.refl _ w1) m)) HTL.out
  have hlk := fun m => joins_empty (W := w1.drewN m) (mj := mj) (n := 0) hR1.jo t hmax
  obtain ⟨x0, x1, x2, x3, x4, x5, x6, x7, x8, x9, x10, fx⟩ := hR1.blk.cells11
  obtain ⟨b0, b1, b2, b3, b4, b5, b6, bf⟩ := hB1.cells7
  have HO := hid hO
  have HA := hid hA
  have HLo := hid hL
  have HT1 := hid hT1
  have hw1 : Below w.heap.size w w1 := hwb
  go_quiet (fail)
  have HR2 : Hid (Rdr (w1.drewN nq) base r ms mw mj ma ns nw tv qv L Ds Dw) := hR1.below (bdrewN (Below.refl _ w1) nq)
  have HT2 := hid (HT1.out.below (bdrewN (Below.refl _ w1) nq))
  have HO2 := hid ((HO.out.below hw1).below (bdrewN (Below.refl _ w1) nq))
  have HL2 := hid ((HLo.out.below hw1).below (bdrewN (Below.refl _ w1) nq))
  have HN2 := hid ((hN.below hw1).below (bdrewN (Below.refl _ w1) nq))
  have HB2 := hid (hB1.drewN nq)
  have HA2 := hid ((HA.out.below hw1).below (bdrewN (Below.refl _ w1) nq))
  have HF2 : Hid (Below w.heap.size w (w1.drewN nq)) := bdrewN hw1 nq
  clear hcv hlk x0 x1 x2 x3 x4 x5 x6 x7 x8 x9 x10 fx b0 b1 b2 b3 b4 b5 b6 bf hR1 hB1 HT1 HO HA HLo hR hN hT hO hL hA
  generalize (w1.drewN nq) = w2 at *
  obtain ⟨b0, b1, b2, b3, b4, b5, b6, bf⟩ := HB2.out.cells7
  have HX := hid hx
  have HKK := hid hkk
  clear hx hkk
  go_upto_region 29 with fail
  have hcv := fun m => BySl.back (w := w2.drewN m) (lo := lo) (s := kk) (HA2.out.below (bdrewN (Below.refl _ w2) m)) HKK.out.symm
  have hlk := fun m => bools_look (W := w2.drewN m) (b := ms) (n := ns) (D := Ds) HR2.out.st kk hks HX.out
  obtain ⟨x0, x1, x2, x3, x4, x5, x6, x7, x8, x9, x10, fx⟩ := HR2.out.blk.cells11
  go_quiet (fail)
  have HR3 : Hid (Rdr (w2.drewN nq) base r ms mw mj ma ns nw tv qv L Ds Dw) := HR2.out.below (bdrewN (Below.refl _ w2) nq)
  have HA3 := hid (HA2.out.below (bdrewN (Below.refl _ w2) nq))
  have HB3 := hid (HB2.out.drewN nq)
  clear hcv hlk x0 x1 x2 x3 x4 x5 x6 x7 x8 x9 x10 fx b0 b1 b2 b3 b4 b5 b6 bf
  have HF3 : Hid (Below w.heap.size w (w2.drewN nq)) := bdrewN HF2.out nq
  have HT3 := hid (HT2.out.below (bdrewN (Below.refl _ w2) nq))
  have HO3 := hid (HO2.out.below (bdrewN (Below.refl _ w2) nq))
  have HL3 := hid (HL2.out.below (bdrewN (Below.refl _ w2) nq))
  have HN3 := hid (HN2.out.below (bdrewN (Below.refl _ w2) nq))
  clear HT2 HO2 HL2 HN2 HR2 HA2 HB2
  generalize (w2.drewN nq) = w3 at HR3 HA3 HB3 HF3 HT3 HO3 HL3 HN3 ⊢
  obtain ⟨x0, x1, x2, x3, x4, x5, x6, x7, x8, x9, x10, fx⟩ := HR3.out.blk.cells11
  obtain ⟨b0, b1, b2, b3, b4, b5, b6, bf⟩ := HB3.out.cells7
  obtain ⟨w4, hup, hm4, htu⟩ := bools_put (W := w3.drew) (b := ms) (n := ns) (D := Ds) HR3.out.st kk hks hnn
  have hcv := BySl.back (w := w3.drew) (lo := lo) (s := kk) (HA3.out.below (Below.refl _ w3).drew) HKK.out.symm
  have hcv2 := BySl.back (w := w3) (lo := lo) (s := kk) HA3.out HKK.out.symm
  have HM4 := hid hm4
  have HTU := hid htu
  clear hm4 htu
  go_wp2_with fail
  go_region
  have HR4 := hid ((HR3.out.below (Below.refl _ w3).drew).turnS HTU.out HM4.out hm1 hm2 hm3)
  have HT4 := hid ((HT3.out.below (Below.refl _ w3).drew).turn HR3.out.st HTU.out)
  have HO4 := hid ((HO3.out.below (Below.refl _ w3).drew).turn HR3.out.st HTU.out)
  have HL4 := hid ((HL3.out.below (Below.refl _ w3).drew).turn HR3.out.st HTU.out)
  have HN4 := hid ((HN3.out.below (Below.refl _ w3).drew).turn HTU.out hm0)
  have HB4 := hid (HB3.out.drew.turn HR3.out.st HTU.out)
  have HF4 : Hid (Fr (fun j => j = ms ∨ j = r ∨ qv.ownBlock = some j ∨ S5 base w j) w w4) := ((Fr.of_grown HF3.out).mono (fun _ _ h => h.elim)).drew.trans (turn_fr HTU.out) (fun j hj hS => Or.inl hS)
  have HS4 : Hid (∀ j, j < w.heap.size → S5 base w4 j → j = ms ∨ j = r ∨ qv.ownBlock = some j ∨ S5 base w j) := fun j hj hS => by
    have := HF3.out.size
    rcases hS.turn HTU.out (by show j < w3.heap.size; omega) with h | h
    · exact Or.inl h
    · exact Or.inr (Or.inr (Or.inr (S5.back (w' := w3) h HF3.out hj)))
  clear hup hcv hcv2 x0 x1 x2 x3 x4 x5 x6 x7 x8 x9 x10 fx b0 b1 b2 b3 b4 b5 b6 bf HR3 HT3 HO3 HL3 HN3 HB3 HA3
  obtain ⟨b0, b1, b2, b3, b4, b5, b6, bf⟩ := HB4.out.cells7
  go_wp2_with fail
  refine (ran_empty r ma 0 n (.map []) ptrR _ _ _ _ _ _ _ _ _ _ _ w4 HR4.out.blk HR4.out.aw rfl).mono ?_
  rintro e w5 ⟨rfl, hb5⟩
  have HR5 := hid (HR4.out.below hb5)
  have HT5 := hid (HT4.out.below hb5)
  have HO5 := hid (HO4.out.below hb5)
  have HL5 := hid (HL4.out.below hb5)
  have HN5 := hid (HN4.out.below hb5)
  have HB5 := hid (HB4.out.below hb5 HB4.out.lt)
  have HF5 : Hid (Fr (fun j => j = ms ∨ j = r ∨ qv.ownBlock = some j ∨ S5 base w j) w w5) := HF4.out.trans (Fr.of_grown hb5) (fun _ _ h => h.elim)
  have HS5 : Hid (∀ j, j < w.heap.size → S5 base w5 j → j = ms ∨ j = r ∨ qv.ownBlock = some j ∨ S5 base w j) := fun j hj hS => HS4.out j hj (hS.back hb5 (by have := HF4.out.size; omega))
  clear b0 b1 b2 b3 b4 b5 b6 bf hb5 HR4 HT4 HO4 HL4 HN4 HB4
  obtain ⟨b0, b1, b2, b3, b4, b5, b6, bf⟩ := HB5.out.cells7
  obtain ⟨xt, hxt⟩ := HR5.out.t
  have HXT := hid hxt
  clear hxt
  go_wp2_with fail
  refine (event_any r base lo tv qv xt n k 4 5 ⟨#[102, 111, 114, 107]⟩ t oB lB na oa la nl nc tg tc ac on oc ln lc an (some ⟨ag, 0, none⟩) 0 0 _ _ _ _ _ _ _ w5 HR5.out.blk HXT.out HN5.out (by decide) (by decide) rfl ht ho hl HR5.out.lo hb0 o' l' ho' hl' HT5.out HO5.out HL5.out).mono ?_
  rintro e w6 ⟨tv', xt', rfl, hr6, ht6, fr6⟩
  have HR6 := hid (HR5.out.event hr6 ht6 fr6)
  have HF6 : Hid (Fr (fun j => j = ms ∨ j = r ∨ qv.ownBlock = some j ∨ S5 base w j) w w6) := HF5.out.trans fr6 (fun j hj hS => by
    rcases hS with hS | hS
    · exact Or.inr (Or.inl hS)
    · exact HS5.out j hj hS)
  clear hr6 ht6 fr6 b0 b1 b2 b3 b4 b5 b6 bf HR5 HT5 HO5 HL5 HN5 HB5
  go_wp2_with fail
  refine (push_any r base qv L (evItem n t ⟨#[102, 111, 114, 107]⟩ o' l' 5) 0 0 _ _ _ _ _ _ _ _ w6 HR6.out.blk HR6.out.q hLn HR6.out.lo).mono ?_
  rintro e w7 ⟨g7, cap7, rfl, hr7, hq7, fr7, hg7⟩
  have HR7 := hid (HR6.out.push hr7 hq7 fr7)
  have HF7 : Hid (Fr (fun j => j = ms ∨ j = r ∨ qv.ownBlock = some j ∨ S5 base w j) w w7) := HF6.out.trans fr7 (fun j hj hS => by
    rcases hS with hS | hS
    · exact Or.inr (Or.inl hS)
    · exact Or.inr (Or.inr (Or.inl hS)))
  have HG7 : Hid (qv.ownBlock = some g7 ∨ w.heap.size ≤ g7) := by
    have := HF6.out.size
    rcases hg7 with h | h
    · exact Or.inl h
    · exact Or.inr (by omega)
  clear hr7 hq7 fr7 hg7
  go_wp2
  go_end0
  exact ⟨rfl, _, _, HR7.out, HF7.out, fun g hg => by simp [Value.ownBlock] at hg; subst hg; exact HG7.out⟩
end Go.Proofs.YbulkawpsFmt
