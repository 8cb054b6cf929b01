import Derived.Test.YbulkawpsFmtPlace4
/- 'Reader.place' (func 10) at Wait lines. -/
namespace Go.Proofs.YbulkawpsFmt
open Go.RowKit
set_option linter.unusedVariables false
set_option maxRecDepth 100000
set_option maxHeartbeats 4000000 in
theorem place3f (base r ms mw mj ma ns nw lo : Nat) (tv qv : Value) (L : List It) (Ds Dw : DataW Unit) (k : Nat) (n : Int) (nv av : Value) (t nm : ByteArray) (na oa la : Option Addr) (nl nc tg tc ac on oc ln lc an : Nat) (aa : Option Addr) (oB lB : List UInt8) (w : World)
    (hR : Rdr w base r ms mw mj ma ns nw tv qv L Ds Dw) (hN : Names w) (ht : t.size = 1) (kk : ByteArray) (ag : Nat) (hkk : kk.data.toList.length = an) (hks : kk.size ≤ maxLen) (hnn : nw < maxLen) (hx : BAt Dw kk false) (hm0 : 0 < mw) (hm1 : ms ≠ mw) (hm2 : mw ≠ mj) (hm3 : mw ≠ ma) (hA : BySl w lo (.slice (some ⟨ag, 0, none⟩) an ac) kk.data.toList) (ho : oB.length ≤ 1) (hl : lB.length ≤ 2) (hb0 : 0 < base) (hLn : L.length < 100000) (o' l' : ByteArray) (ho' : o'.data.toList = tOf 3 ++ oB) (hl' : l'.data.toList = lB)
    (hT : BySl w lo (.slice (some ⟨tg, 0, none⟩) 1 tc) t.data.toList) (hO : BySl w lo (.slice oa on oc) oB) (hL : BySl w lo (.slice la ln lc) lB) :
    Calls Ybaf.prog 10 #[.pointer (some ⟨r, 0, none⟩), .agg #[.int .u8 k, .int .u8 3, .slice na nl nc, .slice (some ⟨ag, 0, none⟩) an ac, .slice (some ⟨tg, 0, none⟩) 1 tc, .slice oa on oc, .slice la ln lc], .int .i64 n] w fun e w' => e = .returned (.tuple #[]) ∧ ∃ tv' qv', Rdr w' base r ms mw mj ma ns (nw + 1) tv' qv' (L ++ [evItem n t ⟨#[114, 101, 108]⟩ o' l' 4]) Ds (Dw.put (.string kk.data.toList) (.lit (.bool true))) ∧ Fr (fun j => j = mw ∨ j = r ∨ qv.ownBlock = some j ∨ S5 base w j) w w' ∧ ∀ g, qv'.ownBlock = some g → qv.ownBlock = some g ∨ w.heap.size ≤ g := by
  have hmax : t.size ≤ maxLen := by rw [ht]; unfold maxLen; omega
  have HTL : Hid (1 = t.data.toList.length) := by
    have h : t.data.toList.length = 1 := by rw [Array.length_toList]; exact ht
    exact h.symm
  have hR1 := hR.below ((Below.refl _ w).alloc (Nat.le_refl _) (.cells #[.int .u8 k, .int .u8 3, .slice na nl nc, .slice (some ⟨ag, 0, none⟩) an ac, .slice (some ⟨tg, 0, none⟩) 1 tc, .slice oa on oc, .slice la ln lc] 59))
  have hB1 := Blk.new w #[.int .u8 k, .int .u8 3, .slice na nl nc, .slice (some ⟨ag, 0, none⟩) an ac, .slice (some ⟨tg, 0, none⟩) 1 tc, .slice oa on oc, .slice la ln lc] 59
  have hT1 := hT.alloc (.cells #[.int .u8 k, .int .u8 3, .slice na nl nc, .slice (some ⟨ag, 0, none⟩) an ac, .slice (some ⟨tg, 0, none⟩) 1 tc, .slice oa on oc, .slice la ln lc] 59)
  go_enter Ybaf.func10, Ybaf.ntmps10
  go_upto_region 1 with fail
  have hwb := (Below.refl _ w).alloc (Nat.le_refl _) (.cells #[.int .u8 k, .int .u8 3, .slice na nl nc, .slice (some ⟨ag, 0, none⟩) an ac, .slice (some ⟨tg, 0, none⟩) 1 tc, .slice oa on oc, .slice la ln lc] 59)
  generalize (w.alloc (.cells #[.int .u8 k, .int .u8 3, .slice na nl nc, .slice (some ⟨ag, 0, none⟩) an ac, .slice (some ⟨tg, 0, none⟩) 1 tc, .slice oa on oc, .slice la ln lc] 59)) = w1 at hR1 hB1 hT1 hwb ⊢
  have hcv := fun m => BySl.back (w := w1.drewN m) (lo := lo) (s := t) (hT1.below (bdrewN (Below.refl _ w1) m)) HTL.out
  have hlk := fun m => joins_empty (W := w1.drewN m) (mj := mj) (n := 0) hR1.jo t hmax
  obtain ⟨x0, x1, x2, x3, x4, x5, x6, x7, x8, x9, x10, fx⟩ := hR1.blk.cells11
  obtain ⟨b0, b1, b2, b3, b4, b5, b6, bf⟩ := hB1.cells7
  have HO := hid hO
  have HA := hid hA
  have HLo := hid hL
  have HT1 := hid hT1
  have hw1 : Below w.heap.size w w1 := hwb
  go_quiet (fail)
  have HR2 : Hid (Rdr (w1.drewN nq) base r ms mw mj ma ns nw tv qv L Ds Dw) := hR1.below (bdrewN (Below.refl _ w1) nq)
  have HT2 := hid (HT1.out.below (bdrewN (Below.refl _ w1) nq))
  have HO2 := hid ((HO.out.below hw1).below (bdrewN (Below.refl _ w1) nq))
  have HL2 := hid ((HLo.out.below hw1).below (bdrewN (Below.refl _ w1) nq))
  have HN2 := hid ((hN.below hw1).below (bdrewN (Below.refl _ w1) nq))
  have HB2 := hid (hB1.drewN nq)
  have HA2 := hid ((HA.out.below hw1).below (bdrewN (Below.refl _ w1) nq))
  have HF2 : Hid (Below w.heap.size w (w1.drewN nq)) := bdrewN hw1 nq
  clear hcv hlk x0 x1 x2 x3 x4 x5 x6 x7 x8 x9 x10 fx b0 b1 b2 b3 b4 b5 b6 bf hR1 hB1 HT1 HO HA HLo hR hN hT hO hL hA
  generalize (w1.drewN nq) = w2 at *
  obtain ⟨b0, b1, b2, b3, b4, b5, b6, bf⟩ := HB2.out.cells7
  have HX := hid hx
  have HKK := hid hkk
  clear hx hkk
  go_wp2_with fail
  refine (ran_empty r ma 0 n (.map []) ptrR _ _ _ _ _ _ _ _ _ _ _ w2 HR2.out.blk HR2.out.aw rfl).mono ?_
  rintro e wy ⟨rfl, hby⟩
  have HRy := hid (HR2.out.below hby)
  have HTy := hid (HT2.out.below hby)
  have HOy := hid (HO2.out.below hby)
  have HLy := hid (HL2.out.below hby)
  have HNy := hid (HN2.out.below hby)
  have HAy := hid (HA2.out.below hby)
  have HBy := hid (HB2.out.below hby HB2.out.lt)
  have HFy : Hid (Below w.heap.size w wy) := HF2.out.trans (hby.mono HF2.out.size)
  clear b0 b1 b2 b3 b4 b5 b6 bf hby HR2 HT2 HO2 HL2 HN2 HB2 HA2 HF2
  obtain ⟨b0, b1, b2, b3, b4, b5, b6, bf⟩ := HBy.out.cells7
  go_upto_region 23 with fail
  have hcv := fun m => BySl.back (w := wy.drewN m) (lo := lo) (s := kk) (HAy.out.below (bdrewN (Below.refl _ wy) m)) HKK.out.symm
  have hlk := fun m => bools_look (W := wy.drewN m) (b := mw) (n := nw) (D := Dw) HRy.out.wa kk hks HX.out
  obtain ⟨x0, x1, x2, x3, x4, x5, x6, x7, x8, x9, x10, fx⟩ := HRy.out.blk.cells11
  go_quiet (fail)
  have HR3 : Hid (Rdr (wy.drewN nq) base r ms mw mj ma ns nw tv qv L Ds Dw) := HRy.out.below (bdrewN (Below.refl _ wy) nq)
  have HA3 := hid (HAy.out.below (bdrewN (Below.refl _ wy) nq))
  have HB3 := hid (HBy.out.drewN nq)
  clear hcv hlk x0 x1 x2 x3 x4 x5 x6 x7 x8 x9 x10 fx b0 b1 b2 b3 b4 b5 b6 bf
  have HF3 : Hid (Below w.heap.size w (wy.drewN nq)) := bdrewN HFy.out nq
  have HT3 := hid (HTy.out.below (bdrewN (Below.refl _ wy) nq))
  have HO3 := hid (HOy.out.below (bdrewN (Below.refl _ wy) nq))
  have HL3 := hid (HLy.out.below (bdrewN (Below.refl _ wy) nq))
  have HN3 := hid (HNy.out.below (bdrewN (Below.refl _ wy) nq))
  clear HTy HOy HLy HNy HRy HAy HBy
  generalize (wy.drewN nq) = w3 at HR3 HA3 HB3 HF3 HT3 HO3 HL3 HN3 ⊢
  obtain ⟨x0, x1, x2, x3, x4, x5, x6, x7, x8, x9, x10, fx⟩ := HR3.out.blk.cells11
  obtain ⟨b0, b1, b2, b3, b4, b5, b6, bf⟩ := HB3.out.cells7
  obtain ⟨w4, hup, hm4, htu⟩ := bools_put (W := w3.drew) (b := mw) (n := nw) (D := Dw) HR3.out.wa kk hks hnn
  have hcv := BySl.back (w := w3.drew) (lo := lo) (s := kk) (HA3.out.below (Below.refl _ w3).drew) HKK.out.symm
  have hcv2 := BySl.back (w := w3) (lo := lo) (s := kk) HA3.out HKK.out.symm
  have HM4 := hid hm4
  have HTU := hid htu
  clear hm4 htu
  go_wp2_with fail
  go_region
  have HR4 := hid ((HR3.out.below (Below.refl _ w3).drew).turnW HTU.out HM4.out hm1 hm2 hm3)
  have HT4 := hid ((HT3.out.below (Below.refl _ w3).drew).turn HR3.out.wa HTU.out)
  have HO4 := hid ((HO3.out.below (Below.refl _ w3).drew).turn HR3.out.wa HTU.out)
  have HL4 := hid ((HL3.out.below (Below.refl _ w3).drew).turn HR3.out.wa HTU.out)
  have HN4 := hid ((HN3.out.below (Below.refl _ w3).drew).turn HTU.out hm0)
  have HB4 := hid (HB3.out.drew.turn HR3.out.wa HTU.out)
  have HF4 : Hid (Fr (fun j => j = mw ∨ j = r ∨ qv.ownBlock = some j ∨ S5 base w j) w w4) := ((Fr.of_grown HF3.out).mono (fun _ _ h => h.elim)).drew.trans (turn_fr HTU.out) (fun j hj hS => Or.inl hS)
  have HS4 : Hid (∀ j, j < w.heap.size → S5 base w4 j → j = mw ∨ j = r ∨ qv.ownBlock = some j ∨ S5 base w j) := fun j hj hS => by
    have := HF3.out.size
    rcases hS.turn HTU.out (by show j < w3.heap.size; omega) with h | h
    · exact Or.inl h
    · exact Or.inr (Or.inr (Or.inr (S5.back (w' := w3) h HF3.out hj)))
  clear hup hcv hcv2 x0 x1 x2 x3 x4 x5 x6 x7 x8 x9 x10 fx b0 b1 b2 b3 b4 b5 b6 bf HR3 HT3 HO3 HL3 HN3 HB3 HA3
  have HR5 := HR4
  have HT5 := HT4
  have HO5 := HO4
  have HL5 := HL4
  have HN5 := HN4
  have HB5 := HB4
  have HF5 := HF4
  have HS5 := HS4
  obtain ⟨w5, hw5⟩ : ∃ x, x = w4 := ⟨_, rfl⟩
  subst hw5
  clear HR4 HT4 HO4 HL4 HN4 HB4 HF4 HS4
  obtain ⟨b0, b1, b2, b3, b4, b5, b6, bf⟩ := HB5.out.cells7
  obtain ⟨xt, hxt⟩ := HR5.out.t
  have HXT := hid hxt
  clear hxt
  go_wp2_with fail
  refine (event_any r base lo tv qv xt n k 3 4 ⟨#[114, 101, 108]⟩ t oB lB na oa la nl nc tg tc ac on oc ln lc an (some ⟨ag, 0, none⟩) 0 0 _ _ _ _ _ _ _ w5 HR5.out.blk HXT.out HN5.out (by decide) (by decide) rfl ht ho hl HR5.out.lo hb0 o' l' ho' hl' HT5.out HO5.out HL5.out).mono ?_
  rintro e w6 ⟨tv', xt', rfl, hr6, ht6, fr6⟩
  have HR6 := hid (HR5.out.event hr6 ht6 fr6)
  have HF6 : Hid (Fr (fun j => j = mw ∨ j = r ∨ qv.ownBlock = some j ∨ S5 base w j) w w6) := HF5.out.trans fr6 (fun j hj hS => by
    rcases hS with hS | hS
    · exact Or.inr (Or.inl hS)
    · exact HS5.out j hj hS)
  clear hr6 ht6 fr6 b0 b1 b2 b3 b4 b5 b6 bf HR5 HT5 HO5 HL5 HN5 HB5
  go_wp2_with fail
  refine (push_any r base qv L (evItem n t ⟨#[114, 101, 108]⟩ o' l' 4) 0 0 _ _ _ _ _ _ _ _ w6 HR6.out.blk HR6.out.q hLn HR6.out.lo).mono ?_
  rintro e w7 ⟨g7, cap7, rfl, hr7, hq7, fr7, hg7⟩
  have HR7 := hid (HR6.out.push hr7 hq7 fr7)
  have HF7 : Hid (Fr (fun j => j = mw ∨ j = r ∨ qv.ownBlock = some j ∨ S5 base w j) w w7) := HF6.out.trans fr7 (fun j hj hS => by
    rcases hS with hS | hS
    · exact Or.inr (Or.inl hS)
    · exact Or.inr (Or.inr (Or.inl hS)))
  have HG7 : Hid (qv.ownBlock = some g7 ∨ w.heap.size ≤ g7) := by
    have := HF6.out.size
    rcases hg7 with h | h
    · exact Or.inl h
    · exact Or.inr (by omega)
  clear hr7 hq7 fr7 hg7
  go_wp2
  go_end0
  exact ⟨rfl, _, _, HR7.out, HF7.out, fun g hg => by simp [Value.ownBlock] at hg; subst hg; exact HG7.out⟩
set_option maxHeartbeats 4000000 in
theorem place3t (base r ms mw mj ma ns nw lo : Nat) (tv qv : Value) (L : List It) (Ds Dw : DataW Unit) (k : Nat) (n : Int) (nv av : Value) (t nm : ByteArray) (na oa la : Option Addr) (nl nc tg tc ac on oc ln lc an : Nat) (aa : Option Addr) (oB lB : List UInt8) (w : World)
    (hR : Rdr w base r ms mw mj ma ns nw tv qv L Ds Dw) (hN : Names w) (ht : t.size = 1) (kk : ByteArray) (ag : Nat) (hkk : kk.data.toList.length = an) (hks : kk.size ≤ maxLen) (hx : BAt Dw kk true) (hm0 : 0 < mw) (hm1 : ms ≠ mw) (hm2 : mw ≠ mj) (hm3 : mw ≠ ma) (hA : BySl w lo (.slice (some ⟨ag, 0, none⟩) an ac) kk.data.toList) (ho : oB.length ≤ 1) (hl : lB.length ≤ 2) (hb0 : 0 < base) (hLn : L.length < 100000) (o' l' : ByteArray) (ho' : o'.data.toList = tOf 3 ++ oB) (hl' : l'.data.toList = lB)
    (hT : BySl w lo (.slice (some ⟨tg, 0, none⟩) 1 tc) t.data.toList) (hO : BySl w lo (.slice oa on oc) oB) (hL : BySl w lo (.slice la ln lc) lB) :
    Calls Ybaf.prog 10 #[.pointer (some ⟨r, 0, none⟩), .agg #[.int .u8 k, .int .u8 3, .slice na nl nc, .slice (some ⟨ag, 0, none⟩) an ac, .slice (some ⟨tg, 0, none⟩) 1 tc, .slice oa on oc, .slice la ln lc], .int .i64 n] w fun e w' => e = .returned (.tuple #[]) ∧ ∃ tv' qv', Rdr w' base r ms mw mj ma ns nw tv' qv' (L ++ [evItem n t ⟨#[97, 99, 113]⟩ o' l' 3]) Ds (Dw.del (.string kk.data.toList)) ∧ Fr (fun j => j = mw ∨ j = r ∨ qv.ownBlock = some j ∨ S5 base w j) w w' ∧ ∀ g, qv'.ownBlock = some g → qv.ownBlock = some g ∨ w.heap.size ≤ g := by
  have hmax : t.size ≤ maxLen := by rw [ht]; unfold maxLen; omega
  have HTL : Hid (1 = t.data.toList.length) := by
    have h : t.data.toList.length = 1 := by rw [Array.length_toList]; exact ht
    exact h.symm
  have hR1 := hR.below ((Below.refl _ w).alloc (Nat.le_refl _) (.cells #[.int .u8 k, .int .u8 3, .slice na nl nc, .slice (some ⟨ag, 0, none⟩) an ac, .slice (some ⟨tg, 0, none⟩) 1 tc, .slice oa on oc, .slice la ln lc] 59))
  have hB1 := Blk.new w #[.int .u8 k, .int .u8 3, .slice na nl nc, .slice (some ⟨ag, 0, none⟩) an ac, .slice (some ⟨tg, 0, none⟩) 1 tc, .slice oa on oc, .slice la ln lc] 59
  have hT1 := hT.alloc (.cells #[.int .u8 k, .int .u8 3, .slice na nl nc, .slice (some ⟨ag, 0, none⟩) an ac, .slice (some ⟨tg, 0, none⟩) 1 tc, .slice oa on oc, .slice la ln lc] 59)
  go_enter Ybaf.func10, Ybaf.ntmps10
  go_upto_region 1 with fail
  have hwb := (Below.refl _ w).alloc (Nat.le_refl _) (.cells #[.int .u8 k, .int .u8 3, .slice na nl nc, .slice (some ⟨ag, 0, none⟩) an ac, .slice (some ⟨tg, 0, none⟩) 1 tc, .slice oa on oc, .slice la ln lc] 59)
  generalize (w.alloc (.cells #[.int .u8 k, .int .u8 3, .slice na nl nc, .slice (some ⟨ag, 0, none⟩) an ac, .slice (some ⟨tg, 0, none⟩) 1 tc, .slice oa on oc, .slice la ln lc] 59)) = w1 at hR1 hB1 hT1 hwb ⊢
  have hcv := fun m => BySl.back (w := w1.drewN m) (lo := lo) (s := t) (hT1.below (bdrewN (Below.refl _ w1) m)) HTL.out
  have hlk := fun m => joins_empty (W := w1.drewN m) (mj := mj) (n := 0) hR1.jo t hmax
  obtain ⟨x0, x1, x2, x3, x4, x5, x6, x7, x8, x9, x10, fx⟩ := hR1.blk.cells11
  obtain ⟨b0, b1, b2, b3, b4, b5, b6, bf⟩ := hB1.cells7
  have HO := hid hO
  have HA := hid hA
  have HLo := hid hL
  have HT1 := hid hT1
  have hw1 : Below w.heap.size w w1 := hwb
  go_quiet (fail)
  have HR2 : Hid (Rdr (w1.drewN nq) base r ms mw mj ma ns nw tv qv L Ds Dw) := hR1.below (bdrewN (Below.refl _ w1) nq)
  have HT2 := hid (HT1.out.below (bdrewN (Below.refl _ w1) nq))
  have HO2 := hid ((HO.out.below hw1).below (bdrewN (Below.refl _ w1) nq))
  have HL2 := hid ((HLo.out.below hw1).below (bdrewN (Below.refl _ w1) nq))
  have HN2 := hid ((hN.below hw1).below (bdrewN (Below.refl _ w1) nq))
  have HB2 := hid (hB1.drewN nq)
  have HA2 := hid ((HA.out.below hw1).below (bdrewN (Below.refl _ w1) nq))
  have HF2 : Hid (Below w.heap.size w (w1.drewN nq)) := bdrewN hw1 nq
  clear hcv hlk x0 x1 x2 x3 x4 x5 x6 x7 x8 x9 x10 fx b0 b1 b2 b3 b4 b5 b6 bf hR1 hB1 HT1 HO HA HLo hR hN hT hO hL hA
  generalize (w1.drewN nq) = w2 at *
  obtain ⟨b0, b1, b2, b3, b4, b5, b6, bf⟩ := HB2.out.cells7
  have HX := hid hx
  have HKK := hid hkk
  clear hx hkk
  go_wp2_with fail
  refine (ran_empty r ma 0 n (.map []) ptrR _ _ _ _ _ _ _ _ _ _ _ w2 HR2.out.blk HR2.out.aw rfl).mono ?_
  rintro e wy ⟨rfl, hby⟩
  have HRy := hid (HR2.out.below hby)
  have HTy := hid (HT2.out.below hby)
  have HOy := hid (HO2.out.below hby)
  have HLy := hid (HL2.out.below hby)
  have HNy := hid (HN2.out.below hby)
  have HAy := hid (HA2.out.below hby)
  have HBy := hid (HB2.out.below hby HB2.out.lt)
  have HFy : Hid (Below w.heap.size w wy) := HF2.out.trans (hby.mono HF2.out.size)
  clear b0 b1 b2 b3 b4 b5 b6 bf hby HR2 HT2 HO2 HL2 HN2 HB2 HA2 HF2
  obtain ⟨b0, b1, b2, b3, b4, b5, b6, bf⟩ := HBy.out.cells7
  go_upto_region 23 with fail
  have hcv := fun m => BySl.back (w := wy.drewN m) (lo := lo) (s := kk) (HAy.out.below (bdrewN (Below.refl _ wy) m)) HKK.out.symm
  have hlk := fun m => bools_look (W := wy.drewN m) (b := mw) (n := nw) (D := Dw) HRy.out.wa kk hks HX.out
  obtain ⟨x0, x1, x2, x3, x4, x5, x6, x7, x8, x9, x10, fx⟩ := HRy.out.blk.cells11
  go_quiet (fail)
  have HR3 : Hid (Rdr (wy.drewN nq) base r ms mw mj ma ns nw tv qv L Ds Dw) := HRy.out.below (bdrewN (Below.refl _ wy) nq)
  have HA3 := hid (HAy.out.below (bdrewN (Below.refl _ wy) nq))
  have HB3 := hid (HBy.out.drewN nq)
  clear hcv hlk x0 x1 x2 x3 x4 x5 x6 x7 x8 x9 x10 fx b0 b1 b2 b3 b4 b5 b6 bf
  have HF3 : Hid (Below w.heap.size w (wy.drewN nq)) := bdrewN HFy.out nq
  have HT3 := hid (HTy.out.below (bdrewN (Below.refl _ wy) nq))
  have HO3 := hid (HOy.out.below (bdrewN (Below.refl _ wy) nq))
  have HL3 := hid (HLy.out.below (bdrewN (Below.refl _ wy) nq))
  have HN3 := hid (HNy.out.below (bdrewN (Below.refl _ wy) nq))
  clear HTy HOy HLy HNy HRy HAy HBy
  generalize (wy.drewN nq) = w3 at HR3 HA3 HB3 HF3 HT3 HO3 HL3 HN3 ⊢
  obtain ⟨x0, x1, x2, x3, x4, x5, x6, x7, x8, x9, x10, fx⟩ := HR3.out.blk.cells11
  obtain ⟨b0, b1, b2, b3, b4, b5, b6, bf⟩ := HB3.out.cells7
  obtain ⟨w4, hup, hm4, htu⟩ := bools_del (W := w3.drew) (b := mw) (n := nw) (D := Dw) HR3.out.wa kk hks 0
  have hcv := BySl.back (w := w3.drew) (lo := lo) (s := kk) (HA3.out.below (Below.refl _ w3).drew) HKK.out.symm
  have hcv2 := BySl.back (w := w3) (lo := lo) (s := kk) HA3.out HKK.out.symm
  have HM4 := hid hm4
  have HTU := hid htu
  clear hm4 htu
  go_wp2_with fail
  go_region
  have HR4 := hid ((HR3.out.below (Below.refl _ w3).drew).turnW HTU.out HM4.out hm1 hm2 hm3)
  have HT4 := hid ((HT3.out.below (Below.refl _ w3).drew).turn HR3.out.wa HTU.out)
  have HO4 := hid ((HO3.out.below (Below.refl _ w3).drew).turn HR3.out.wa HTU.out)
  have HL4 := hid ((HL3.out.below (Below.refl _ w3).drew).turn HR3.out.wa HTU.out)
  have HN4 := hid ((HN3.out.below (Below.refl _ w3).drew).turn HTU.out hm0)
  have HB4 := hid (HB3.out.drew.turn HR3.out.wa HTU.out)
  have HF4 : Hid (Fr (fun j => j = mw ∨ j = r ∨ qv.ownBlock = some j ∨ S5 base w j) w w4) := ((Fr.of_grown HF3.out).mono (fun _ _ h => h.elim)).drew.trans (turn_fr HTU.out) (fun j hj hS => Or.inl hS)
  have HS4 : Hid (∀ j, j < w.heap.size → S5 base w4 j → j = mw ∨ j = r ∨ qv.ownBlock = some j ∨ S5 base w j) := fun j hj hS => by
    have := HF3.out.size
    rcases hS.turn HTU.out (by show j < w3.heap.size; omega) with h | h
    · exact Or.inl h
    · exact Or.inr (Or.inr (Or.inr (S5.back (w' := w3) h HF3.out hj)))
  clear hup hcv hcv2 x0 x1 x2 x3 x4 x5 x6 x7 x8 x9 x10 fx b0 b1 b2 b3 b4 b5 b6 bf HR3 HT3 HO3 HL3 HN3 HB3 HA3
  have HR5 := HR4
  have HT5 := HT4
  have HO5 := HO4
  have HL5 := HL4
  have HN5 := HN4
  have HB5 := HB4
  have HF5 := HF4
  have HS5 := HS4
  obtain ⟨w5, hw5⟩ : ∃ x, x = w4 := ⟨_, rfl⟩
  subst hw5
  clear HR4 HT4 HO4 HL4 HN4 HB4 HF4 HS4
  obtain ⟨b0, b1, b2, b3, b4, b5, b6, bf⟩ := HB5.out.cells7
  obtain ⟨xt, hxt⟩ := HR5.out.t
  have HXT := hid hxt
  clear hxt
  go_wp2_with fail
  refine (event_any r base lo tv qv xt n k 3 3 ⟨#[97, 99, 113]⟩ t oB lB na oa la nl nc tg tc ac on oc ln lc an (some ⟨ag, 0, none⟩) 0 0 _ _ _ _ _ _ _ w5 HR5.out.blk HXT.out HN5.out (by decide) (by decide) rfl ht ho hl HR5.out.lo hb0 o' l' ho' hl' HT5.out HO5.out HL5.out).mono ?_
  rintro e w6 ⟨tv', xt', rfl, hr6, ht6, fr6⟩
  have HR6 := hid (HR5.out.event hr6 ht6 fr6)
  have HF6 : Hid (Fr (fun j => j = mw ∨ j = r ∨ qv.ownBlock = some j ∨ S5 base w j) w w6) := HF5.out.trans fr6 (fun j hj hS => by
    rcases hS with hS | hS
    · exact Or.inr (Or.inl hS)
    · exact HS5.out j hj hS)
  clear hr6 ht6 fr6 b0 b1 b2 b3 b4 b5 b6 bf HR5 HT5 HO5 HL5 HN5 HB5
  go_wp2_with fail
  refine (push_any r base qv L (evItem n t ⟨#[97, 99, 113]⟩ o' l' 3) 0 0 _ _ _ _ _ _ _ _ w6 HR6.out.blk HR6.out.q hLn HR6.out.lo).mono ?_
  rintro e w7 ⟨g7, cap7, rfl, hr7, hq7, fr7, hg7⟩
  have HR7 := hid (HR6.out.push hr7 hq7 fr7)
  have HF7 : Hid (Fr (fun j => j = mw ∨ j = r ∨ qv.ownBlock = some j ∨ S5 base w j) w w7) := HF6.out.trans fr7 (fun j hj hS => by
    rcases hS with hS | hS
    · exact Or.inr (Or.inl hS)
    · exact Or.inr (Or.inr (Or.inl hS)))
  have HG7 : Hid (qv.ownBlock = some g7 ∨ w.heap.size ≤ g7) := by
    have := HF6.out.size
    rcases hg7 with h | h
    · exact Or.inl h
    · exact Or.inr (by omega)
  clear hr7 hq7 fr7 hg7
  go_wp2
  go_end0
  exact ⟨rfl, _, _, HR7.out, HF7.out, fun g hg => by simp [Value.ownBlock] at hg; subst hg; exact HG7.out⟩
end Go.Proofs.YbulkawpsFmt
