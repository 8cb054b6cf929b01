import Derived.Test.YbulkawpsFmtJLine
/- 'Reader.place' (func 10) where Join lines are pending; written by a program. -/
namespace Go.Proofs.YbulkawpsFmt
open Go.RowKit
open Go.Extern.Stop Go.Stop Go.Extern
set_option linter.unusedVariables false
set_option maxRecDepth 100000
set_option maxHeartbeats 4000000 in
theorem place0r (base r mj ma nj na0 lo : Nat) (x7 x8 tv : Value) (q cap : Nat) (i0 : It) (t u : ByteArray) (j : Nat) (it : It) (rn : Int) (b c : Nat)  (n : Int) (k : Nat) (nm : ByteArray) (h1 : 1 ≤ k) (h2 : k ≤ 8) (hs : nmL[k]? = some nm) (na la : Option Addr) (nl nc tg tc ac ln lc an : Nat) (oa : Option Addr) (on oc : Nat) (aa : Option Addr) (oB lB : List UInt8) (w : World) 
    (hR : Rdj w base r mj ma nj na0 x7 x8 tv (.slice (some ⟨q, 0, none⟩) 1 cap) [i0] (jD t j) (aD u b c)) (hN : Names w) (hp : Blk w j (pjA it t u 0 rn) 43) (hbj : base ≤ j) (ha : w.ownsRow base 41 1 (.slice (some ⟨b, 0, none⟩) 1 c) 1 [.pointer (some ⟨j, 0, none⟩)]) (ht1 : t.size = 1) (hu1 : u.size = 1) (hx1 : u.size = 1) (ho : oB.length ≤ 1) (hl : lB.length ≤ 2) (hb0 : 0 < base) (o' l' : ByteArray) (ho' : o'.data.toList = tOf 0 ++ oB) (hl' : l'.data.toList = lB)
    (hT : BySl w lo (.slice (some ⟨tg, 0, none⟩) 1 tc) u.data.toList) (hO : BySl w lo (.slice oa on oc) oB) (hL : BySl w lo (.slice la ln lc) lB) (hjn : (jD t j).atKey (.string u.data.toList) .nil = .nil) :
    Calls Ybaf.prog 10 #[.pointer (some ⟨r, 0, none⟩), .agg #[.int .u8 k, .int .u8 0, .slice na nl nc, .slice aa an ac, .slice (some ⟨tg, 0, none⟩) 1 tc, .slice oa on oc, .slice la ln lc], .int .i64 n] w fun e w' => e = .returned (.tuple #[]) ∧ ∃ tv' qv', Rdj w' base r mj ma nj na0 x7 x8 tv' qv' ([itN] ++ [evItem n u nm o' l' k]) (jD t j) eD ∧ Blk w' j (pjA it t u (-1) n) 43 ∧ Fr (SS base (.slice (some ⟨q, 0, none⟩) 1 cap) w) w w' ∧ ∀ g, qv'.ownBlock = some g → ((.slice (some ⟨q, 0, none⟩) 1 cap) : Value).ownBlock = some g ∨ w.heap.size ≤ g := by
  have hmt : t.size ≤ maxLen := by rw [ht1]; unfold maxLen; omega
  have hmu : u.size ≤ maxLen := by rw [hu1]; unfold maxLen; omega
  have HTL : Hid (1 = u.data.toList.length) := (one_len hx1).symm
  have HX1 := hid hx1
  have HHT := hid ht1
  have HHU := hid hu1
  have hR1 := hR.below ((Below.refl _ w).alloc (Nat.le_refl _) (.cells #[.int .u8 k, .int .u8 0, .slice na nl nc, .slice aa an ac, .slice (some ⟨tg, 0, none⟩) 1 tc, .slice oa on oc, .slice la ln lc] 59))
  have hB1 := Blk.new w #[.int .u8 k, .int .u8 0, .slice na nl nc, .slice aa an ac, .slice (some ⟨tg, 0, none⟩) 1 tc, .slice oa on oc, .slice la ln lc] 59
  have hT1 := hT.alloc (.cells #[.int .u8 k, .int .u8 0, .slice na nl nc, .slice aa an ac, .slice (some ⟨tg, 0, none⟩) 1 tc, .slice oa on oc, .slice la ln lc] 59)
  have hLn1 : Ln w (w.alloc (.cells #[.int .u8 k, .int .u8 0, .slice na nl nc, .slice aa an ac, .slice (some ⟨tg, 0, none⟩) 1 tc, .slice oa on oc, .slice la ln lc] 59)) base lo w.heap.size (.slice (some ⟨q, 0, none⟩) 1 cap) #[.int .u8 k, .int .u8 0, .slice na nl nc, .slice aa an ac, .slice (some ⟨tg, 0, none⟩) 1 tc, .slice oa on oc, .slice la ln lc] (.slice (some ⟨tg, 0, none⟩) 1 tc) (.slice oa on oc) (.slice la ln lc) u.data.toList oB lB :=
    ⟨hN.below ((Below.refl _ w).alloc (Nat.le_refl _) _), hB1, hT1, hO.alloc _, hL.alloc _, (Fr.refl _ w).alloc _⟩
  have hp1 := hp.alloc (.cells #[.int .u8 k, .int .u8 0, .slice na nl nc, .slice aa an ac, .slice (some ⟨tg, 0, none⟩) 1 tc, .slice oa on oc, .slice la ln lc] 59)
  have ha1 := ha.alloc (.cells #[.int .u8 k, .int .u8 0, .slice na nl nc, .slice aa an ac, .slice (some ⟨tg, 0, none⟩) 1 tc, .slice oa on oc, .slice la ln lc] 59)
  go_enter Ybaf.func10, Ybaf.ntmps10
  go_upto_region 1 with fail
  generalize (w.alloc (.cells #[.int .u8 k, .int .u8 0, .slice na nl nc, .slice aa an ac, .slice (some ⟨tg, 0, none⟩) 1 tc, .slice oa on oc, .slice la ln lc] 59)) = w1 at hR1 hB1 hT1 hLn1 hp1 ha1 ⊢
  have hcv := fun m => BySl.back (w := w1.drewN m) (lo := lo) (s := u) (hT1.below (bdrewN (Below.refl _ w1) m)) HTL.out
  have hlk := fun m => j_none (W := w1.drewN m) (b := mj) (n := nj) (D := (jD t j)) hR1.jo u hmu hjn
  obtain ⟨x0, x1, x2, x3, x4, x5, x6, y7, y8, x9, x10, fx⟩ := hR1.blk.cells11
  obtain ⟨b0, b1, b2, b3, b4, b5, b6, bf⟩ := hB1.cells7
  have HLn1 := hid hLn1
  clear hLn1
  go_quiet (fail)
  have HR2 : Hid (Rdj (w1.drewN nq) base r mj ma nj na0 x7 x8 tv (.slice (some ⟨q, 0, none⟩) 1 cap) [i0] (jD t j) (aD u b c)) := hR1.below (bdrewN (Below.refl _ w1) nq)
  have HLn2 := hid (HLn1.out.below (bdrewN (Below.refl _ w1) nq))
  have HP2 := hid (hp1.drewN nq)
  have HA2 := hid (row_fr ha1 (Fr.of_grown (bdrewN (Below.refl _ w1) nq)) (fun _ _ h => h))
  clear hcv hlk x0 x1 x2 x3 x4 x5 x6 y7 y8 x9 x10 fx b0 b1 b2 b3 b4 b5 b6 bf hR1 hB1 hT1 HLn1 hR hN hT hO hL hp hp1 ha ha1 hx1 ht1 hu1
  generalize (w1.drewN nq) = w2 at HR2 HLn2 HP2 HA2 ⊢
  have HQ2 : Hid (∀ g, ((.slice (some ⟨q, 0, none⟩) 1 cap) : Value).ownBlock = some g → ((.slice (some ⟨q, 0, none⟩) 1 cap) : Value).ownBlock = some g ∨ w.heap.size ≤ g) := fun g hg => Or.inl hg
  obtain ⟨b0, b1, b2, b3, b4, b5, b6, bf⟩ := HLn2.out.bx.cells7
  go_wp2_with fail
  refine (ran_some base r j mj ma nj na0 b c lo x7 x8 tv q cap i0 (jD t j) it t u rn n tg 1 tc w2 HR2.out HP2.out hmu HTL.out hbj HLn2.out.t HA2.out).mono ?_
  rintro e w3 ⟨rfl, hR3, hp3, f3⟩
  have HR3 := hid hR3
  have HLn3 := hid (HLn2.out.step f3 HQ2.out HR2.out.q30 hb0)
  have HP3 := hid hp3
  have HQ3 := HQ2
  clear hR3 hp3 f3
  clear b0 b1 b2 b3 b4 b5 b6 bf HR2 HLn2 HQ2 HP2 HA2
  obtain ⟨b0, b1, b2, b3, b4, b5, b6, bf⟩ := HLn3.out.bx.cells7
  obtain ⟨xt, hxt⟩ := HR3.out.t
  have HXT := hid hxt
  clear hxt
  go_wp2_with fail
  refine (event_any r base lo tv (.slice (some ⟨q, 0, none⟩) 1 cap) xt n k 0 k nm u oB lB na oa la nl nc tg tc ac on oc ln lc an aa 0 0 _ _ _ _ _ _ _ w3 HR3.out.blk HXT.out HLn3.out.nm h1 h2 hs HX1.out ho hl HR3.out.lo hb0 o' l' ho' hl' HLn3.out.t HLn3.out.o HLn3.out.l).mono ?_
  rintro e w4 ⟨tv4, xt4, rfl, hr4, ht4, f4⟩
  have HR4 := hid (HR3.out.event hr4 ht4 f4)
  have HLn4 := hid (HLn3.out.step (HR3.out.ssE f4) HQ3.out HR3.out.q30 hb0)
  have HP4 := hid (HR3.out.pjE HP3.out (Or.inl rfl) f4)
  have HQ4 := HQ3
  clear hr4 ht4 f4 HXT
  clear b0 b1 b2 b3 b4 b5 b6 bf HR3 HLn3 HQ3 HP3
  obtain ⟨b0, b1, b2, b3, b4, b5, b6, bf⟩ := HLn4.out.bx.cells7
  go_wp2_with fail
  refine (push_any r base (.slice (some ⟨q, 0, none⟩) 1 cap) [itN] (evItem n u nm o' l' k) 0 0 _ _ _ _ _ _ _ _ w4 HR4.out.blk HR4.out.q (by simp) HR4.out.lo).mono ?_
  rintro e w5 ⟨g5, cap5, rfl, hr5, hq5, f5, hg5⟩
  have HR5 := hid (HR4.out.push hr5 hq5 f5)
  have HLn5 := hid (HLn4.out.step (HR4.out.ssP f5) HQ4.out HR4.out.q30 hb0)
  have HP5 := hid (HR4.out.pjP HP4.out (Or.inl rfl) f5)
  have HQ5 : Hid (∀ g, (Value.slice (some ⟨g5, 0, none⟩) ([itN] ++ [(evItem n u nm o' l' k)]).length cap5).ownBlock = some g → ((.slice (some ⟨q, 0, none⟩) 1 cap) : Value).ownBlock = some g ∨ w.heap.size ≤ g) := fun g hg => by
    simp [Value.ownBlock] at hg
    subst hg
    have := HLn4.out.f.size
    rcases hg5 with h | h
    · exact HQ4.out _ h
    · exact Or.inr (by omega)
  clear hr5 hq5 f5 hg5
  clear b0 b1 b2 b3 b4 b5 b6 bf HR4 HLn4 HQ4 HP4
  obtain ⟨b0, b1, b2, b3, b4, b5, b6, bf⟩ := HLn5.out.bx.cells7
  go_wp2
  go_end0
  exact ⟨rfl, _, _, HR5.out, HP5.out, HLn5.out.f, HQ5.out⟩
end Go.Proofs.YbulkawpsFmt
