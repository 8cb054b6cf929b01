import Derived.Test.YbulkawpsFmtPlace
namespace Go.Proofs.YbulkawpsFmt
open Go.RowKit
set_option linter.unusedVariables false
set_option maxRecDepth 100000
theorem BySl.place {w w' : World} {lo base r ms mw mj ma ns nw : Nat} {tv qv v : Value} {L : List It} {Ds Dw : DataW Unit} {l : List UInt8} (h : BySl w lo v l) (f : Fr (fun j => j = r ∨ qv.ownBlock = some j ∨ S5 base w j) w w') (hR : Rdr w base r ms mw mj ma ns nw tv qv L Ds Dw) : BySl w' lo v l :=
  h.fr f (fun g hg hS => by
    rcases hS with hS | hS | hS
    · subst hS; exact h.own hg hR.blk
    · obtain ⟨_, _, _, _, hb, _⟩ := row_blk hR.q hS
      exact h.own hg hb
    · exact h.s5 hg hS)
theorem Names.place {w w' : World} {base r ms mw mj ma ns nw : Nat} {tv qv : Value} {L : List It} {Ds Dw : DataW Unit} (h : Names w) (f : Fr (fun j => j = r ∨ qv.ownBlock = some j ∨ S5 base w j) w w') (hR : Rdr w base r ms mw mj ma ns nw tv qv L Ds Dw) (hb : 0 < base) (hr : 0 < r) : Names w' := fun i s hi =>
  f.cell_some (h i s hi) (fun hS => by
    rcases hS with hS | hS | hS
    · simp at hS; omega
    · have := row_base hR.q hS; simp at this; omega
    · have := hS.1; simp at this; omega)
theorem S5.into {base j : Nat} {S : Nat → Prop} {w w' : World} (h : S5 base w' j) (f : Fr S w w') (hj : j < w.heap.size) (hS : ∀ i, S5 base w i → S i) : S j := by
  by_cases hs : S j
  · exact hs
  · obtain ⟨h1, c, h2⟩ := h
    exact hS j ⟨h1, c, by unfold Blk at h2 ⊢; rw [← f.block j hj hs]; exact h2⟩
set_option maxHeartbeats 4000000 in
theorem place1 (base r ms mw mj ma ns nw lo : Nat) (tv qv : Value) (L : List It) (Ds Dw : DataW Unit) (k : Nat) (n : Int) (nv av : Value) (t : ByteArray) (na oa la : Option Addr) (nl nc tg tc ac on oc ln lc an : Nat) (aa : Option Addr) (oB lB : List UInt8) (w : World)
    (hR : Rdr w base r ms mw mj ma ns nw tv qv L Ds Dw) (hN : Names w) (ht : t.size = 1) (ho : oB.length ≤ 1) (hl : lB.length ≤ 2) (hb0 : 0 < base) (hr0 : 0 < r) (hLn : L.length < 99999) (o' l' : ByteArray) (ho' : o'.data.toList = tOf 1 ++ oB) (hl' : l'.data.toList = lB)
    (hT : BySl w lo (.slice (some ⟨tg, 0, none⟩) 1 tc) t.data.toList) (hO : BySl w lo (.slice oa on oc) oB) (hL : BySl w lo (.slice la ln lc) lB) :
    Calls Ybaf.prog 10 #[.pointer (some ⟨r, 0, none⟩), .agg #[.int .u8 k, .int .u8 1, .slice na nl nc, .slice aa an ac, .slice (some ⟨tg, 0, none⟩) 1 tc, .slice oa on oc, .slice la ln lc], .int .i64 n] w fun e w' => e = .returned (.tuple #[]) ∧ ∃ tv' qv', Rdr w' base r ms mw mj ma ns nw tv' qv' (L ++ [evItem n t ⟨#[97, 99, 113]⟩ o' l' 3] ++ [evItem n t ⟨#[114, 101, 108]⟩ o' l' 4]) Ds Dw ∧ Fr (fun j => j = r ∨ qv.ownBlock = some j ∨ S5 base w j) w w' ∧ ∀ g, qv'.ownBlock = some g → qv.ownBlock = some g ∨ w.heap.size ≤ g := by
  have HLN := hid hLn
  have hmax : t.size ≤ maxLen := by rw [ht]; unfold maxLen; omega
  have HTL : Hid (1 = t.data.toList.length) := by
    have h : t.data.toList.length = 1 := by rw [Array.length_toList]; exact ht
    exact h.symm
  have hR1 := hR.below ((Below.refl _ w).alloc (Nat.le_refl _) (.cells #[.int .u8 k, .int .u8 1, .slice na nl nc, .slice aa an ac, .slice (some ⟨tg, 0, none⟩) 1 tc, .slice oa on oc, .slice la ln lc] 59))
  have hB1 := Blk.new w #[.int .u8 k, .int .u8 1, .slice na nl nc, .slice aa an ac, .slice (some ⟨tg, 0, none⟩) 1 tc, .slice oa on oc, .slice la ln lc] 59
  have hT1 := hT.alloc (.cells #[.int .u8 k, .int .u8 1, .slice na nl nc, .slice aa an ac, .slice (some ⟨tg, 0, none⟩) 1 tc, .slice oa on oc, .slice la ln lc] 59)
  go_enter Ybaf.func10, Ybaf.ntmps10
  go_upto_region 1 with fail
  have hwb := (Below.refl _ w).alloc (Nat.le_refl _) (.cells #[.int .u8 k, .int .u8 1, .slice na nl nc, .slice aa an ac, .slice (some ⟨tg, 0, none⟩) 1 tc, .slice oa on oc, .slice la ln lc] 59)
  generalize (w.alloc (.cells #[.int .u8 k, .int .u8 1, .slice na nl nc, .slice aa an ac, .slice (some ⟨tg, 0, none⟩) 1 tc, .slice oa on oc, .slice la ln lc] 59)) = w1 at hR1 hB1 hT1 hwb ⊢
  have hcv := fun m => BySl.back (w := w1.drewN m) (lo := lo) (s := t) (hT1.below (bdrewN (Below.refl _ w1) m)) HTL.out
  have hlk := fun m => joins_empty (W := w1.drewN m) (mj := mj) (n := 0) hR1.jo t hmax
  obtain ⟨x0, x1, x2, x3, x4, x5, x6, x7, x8, x9, x10, fx⟩ := hR1.blk.cells11
  obtain ⟨b0, b1, b2, b3, b4, b5, b6, bf⟩ := hB1.cells7
  have HO := hid hO
  have HLo := hid hL
  have HT1 := hid hT1
  have hw1 : Below w.heap.size w w1 := hwb
  go_quiet (fail)
  have HR2 : Hid (Rdr (w1.drewN nq) base r ms mw mj ma ns nw tv qv L Ds Dw) := hR1.below (bdrewN (Below.refl _ w1) nq)
  have HT2 := hid (HT1.out.below (bdrewN (Below.refl _ w1) nq))
  have HO2 := hid ((HO.out.below hw1).below (bdrewN (Below.refl _ w1) nq))
  have HL2 := hid ((HLo.out.below hw1).below (bdrewN (Below.refl _ w1) nq))
  have HN2 := hid ((hN.below hw1).below (bdrewN (Below.refl _ w1) nq))
  have HB2 := hid (hB1.drewN nq)
  have HF2 : Hid (Below w.heap.size w (w1.drewN nq)) := bdrewN hw1 nq
  clear hcv hlk x0 x1 x2 x3 x4 x5 x6 x7 x8 x9 x10 fx b0 b1 b2 b3 b4 b5 b6 bf hR1 hB1 HT1 HO HLo hR hN hT hO hL
  generalize (w1.drewN nq) = w2 at *
  obtain ⟨b0, b1, b2, b3, b4, b5, b6, bf⟩ := HB2.out.cells7
  go_wp2_with fail
  refine (ran_empty r ma 0 n (.map []) ptrR _ _ _ _ _ _ _ _ _ _ _ w2 HR2.out.blk HR2.out.aw rfl).mono ?_
  rintro e w3 ⟨rfl, hb3⟩
  have HR3 := hid (HR2.out.below hb3)
  have HT3 := hid (HT2.out.below hb3)
  have HO3 := hid (HO2.out.below hb3)
  have HL3 := hid (HL2.out.below hb3)
  have HN3 := hid (HN2.out.below hb3)
  have HB3 := hid (HB2.out.below hb3 HB2.out.lt)
  have HF3 : Hid (Below w.heap.size w w3) := HF2.out.trans (hb3.mono HF2.out.size)
  clear b0 b1 b2 b3 b4 b5 b6 bf hb3 HR2 HT2 HO2 HL2 HN2 HB2
  obtain ⟨b0, b1, b2, b3, b4, b5, b6, bf⟩ := HB3.out.cells7
  obtain ⟨xt, hxt⟩ := HR3.out.t
  have HXT := hid hxt
  clear hxt
  go_wp2_with fail
  refine (event_any r base lo tv qv xt n k 1 3 ⟨#[97, 99, 113]⟩ t oB lB na oa la nl nc tg tc ac on oc ln lc an aa 0 0 _ _ _ _ _ _ _ w3 HR3.out.blk HXT.out HN3.out (by decide) (by decide) rfl ht ho hl HR3.out.lo hb0 o' l' ho' hl' HT3.out HO3.out HL3.out).mono ?_
  rintro e w4 ⟨tv', xt', rfl, hr4, ht4, fr4⟩
  have HR4 := hid (HR3.out.event hr4 ht4 fr4)
  have HF4 : Hid (Fr (fun j => j = r ∨ qv.ownBlock = some j ∨ S5 base w3 j) w3 w4) := fr4.mono (fun j _ hS => by
    rcases hS with hS | hS
    · exact Or.inl hS
    · exact Or.inr (Or.inr hS))
  clear hr4 ht4 fr4 b0 b1 b2 b3 b4 b5 b6 bf
  go_wp2_with fail
  refine (push_any r base qv L (evItem n t ⟨#[97, 99, 113]⟩ o' l' 3) 0 0 _ _ _ _ _ _ _ _ w4 HR4.out.blk HR4.out.q (by have := HLN.out; omega) HR4.out.lo).mono ?_
  rintro e w5 ⟨g5, cap5, rfl, hr5, hq5, fr5, hg5⟩
  have HR5 := hid (HR4.out.push hr5 hq5 fr5)
  have HF5 : Hid (Fr (fun j => j = r ∨ qv.ownBlock = some j ∨ S5 base w3 j) w3 w5) := HF4.out.trans fr5 (fun j hj hS => by
    rcases hS with hS | hS
    · exact Or.inl hS
    · exact Or.inr (Or.inl hS))
  have HG5 : Hid (qv.ownBlock = some g5 ∨ w3.heap.size ≤ g5) := by
    have := HF4.out.size
    rcases hg5 with h | h
    · exact Or.inl h
    · exact Or.inr (by omega)
  have HT5 := hid (HT3.out.place HF5.out HR3.out)
  have HO5 := hid (HO3.out.place HF5.out HR3.out)
  have HL5 := hid (HL3.out.place HF5.out HR3.out)
  have HN5 : Hid (Names w5) := HN3.out.place HF5.out HR3.out hb0 hr0
  have HB5 := hid (HB3.out.fr HF5.out (fun hS => by
    rcases hS with hS | hS | hS
    · exact HB3.out.ne HR3.out.blk (by decide) hS
    · exact row_ne HR3.out.q HB3.out (by decide) hS
    · exact HB3.out.s5 (by decide) hS))
  clear hr5 hq5 fr5 hg5 HR4 HF4
  obtain ⟨b0, b1, b2, b3, b4, b5, b6, bf⟩ := HB5.out.cells7
  obtain ⟨xt5, hxt5⟩ := HR5.out.t
  have HXT5 := hid hxt5
  clear hxt5
  go_wp2_with fail
  refine (event_any r base lo tv' (.slice (some ⟨g5, 0, none⟩) (L ++ [evItem n t ⟨#[97, 99, 113]⟩ o' l' 3]).length cap5) xt5 n k 1 4 ⟨#[114, 101, 108]⟩ t oB lB na oa la nl nc tg tc ac on oc ln lc an aa 0 0 _ _ _ _ _ _ _ w5 HR5.out.blk HXT5.out HN5.out (by decide) (by decide) rfl ht ho hl HR5.out.lo hb0 o' l' ho' hl' HT5.out HO5.out HL5.out).mono ?_
  rintro e w6 ⟨tv6, xt6, rfl, hr6, ht6, fr6⟩
  have HR6 := hid (HR5.out.event hr6 ht6 fr6)
  have HF6 : Hid (Fr (fun j => j = r ∨ qv.ownBlock = some j ∨ S5 base w3 j) w3 w6) := HF5.out.trans fr6 (fun j hj hS => by
    rcases hS with hS | hS
    · exact Or.inl hS
    · exact hS.into HF5.out hj (fun i hi => Or.inr (Or.inr hi)))
  clear hr6 ht6 fr6 b0 b1 b2 b3 b4 b5 b6 bf
  go_wp2_with fail
  refine (push_any r base (.slice (some ⟨g5, 0, none⟩) (L ++ [evItem n t ⟨#[97, 99, 113]⟩ o' l' 3]).length cap5) (L ++ [evItem n t ⟨#[97, 99, 113]⟩ o' l' 3]) (evItem n t ⟨#[114, 101, 108]⟩ o' l' 4) 0 0 _ _ _ _ _ _ _ _ w6 HR6.out.blk HR6.out.q (by have := HLN.out; rw [List.length_append]; simp; omega) HR6.out.lo).mono ?_
  rintro e w7 ⟨g7, cap7, rfl, hr7, hq7, fr7, hg7⟩
  have HR7 := hid (HR6.out.push hr7 hq7 fr7)
  have HF7 : Hid (Fr (fun j => j = r ∨ qv.ownBlock = some j ∨ S5 base w3 j) w3 w7) := HF6.out.trans fr7 (fun j hj hS => by
    rcases hS with hS | hS
    · exact Or.inl hS
    · simp [Value.ownBlock] at hS
      subst hS
      rcases HG5.out with h | h
      · exact Or.inr (Or.inl h)
      · omega)
  have HG7 : Hid (qv.ownBlock = some g7 ∨ w3.heap.size ≤ g7) := by
    have := HF6.out.size
    rcases hg7 with h | h
    · simp [Value.ownBlock] at h
      subst h
      exact HG5.out
    · exact Or.inr (by omega)
  clear hr7 hq7 fr7 hg7
  go_wp2
  go_end0
  refine ⟨rfl, _, _, HR7.out, ((Fr.of_grown HF3.out).mono (fun _ _ h => h.elim)).trans HF7.out (fun j hj hS => ?_), fun g hg => ?_⟩
  · rcases hS with hS | hS | hS
    · exact Or.inl hS
    · exact Or.inr (Or.inl hS)
    · exact Or.inr (Or.inr (hS.back HF3.out hj))
  · simp [Value.ownBlock] at hg
    subst hg
    have := HF3.out.size
    rcases HG7.out with h | h
    · exact Or.inl h
    · exact Or.inr (by omega)
end Go.Proofs.YbulkawpsFmt
