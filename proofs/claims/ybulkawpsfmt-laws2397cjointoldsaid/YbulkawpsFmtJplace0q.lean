import Derived.Test.YbulkawpsFmtJLine
/- 'Reader.place' (func 10) where Join lines are pending; written by a program. -/
namespace Go.Proofs.YbulkawpsFmt
open Go.RowKit
open Go.Extern.Stop Go.Stop Go.Extern
set_option linter.unusedVariables false
set_option maxRecDepth 100000
set_option maxHeartbeats 4000000 in
theorem place0q (base r mj ma nj na0 lo : Nat) (x7 x8 tv : Value) (qv : Value) (L : List It) (t u : ByteArray) (j : Nat) (it : It) (rn : Int)  (n : Int) (k : Nat) (nm : ByteArray) (h1 : 1 ≤ k) (h2 : k ≤ 8) (hs : nmL[k]? = some nm) (na la : Option Addr) (nl nc tg tc ac ln lc an : Nat) (oa : Option Addr) (on oc : Nat) (aa : Option Addr) (oB lB : List UInt8) (w : World) (F : Interp) (hF : F.answers w.tape) 
    (hR : Rdj w base r mj ma nj na0 x7 x8 tv qv L (jD t j) eD) (hN : Names w) (hp : Blk w j (pjA it t u (-1) rn) 43) (hbj : base ≤ j) (ht1 : t.size = 1) (hu1 : u.size = 1) (hLn : L.length < 99999) (hx1 : t.size = 1) (ho : oB.length ≤ 1) (hl : lB.length ≤ 2) (hb0 : 0 < base) (o' l' : ByteArray) (ho' : o'.data.toList = tOf 0 ++ oB) (hl' : l'.data.toList = lB)
    (hT : BySl w lo (.slice (some ⟨tg, 0, none⟩) 1 tc) t.data.toList) (hO : BySl w lo (.slice oa on oc) oB) (hL : BySl w lo (.slice la ln lc) lB) :
    Calls Ybaf.prog 10 #[.pointer (some ⟨r, 0, none⟩), .agg #[.int .u8 k, .int .u8 0, .slice na nl nc, .slice aa an ac, .slice (some ⟨tg, 0, none⟩) 1 tc, .slice oa on oc, .slice la ln lc], .int .i64 n] w fun e w' => e = .returned (.tuple #[]) ∧ ∃ tx tv' qv', Rdj w' base r mj ma nj na0 x7 x8 tv' qv' (L ++ [(⟨tx, rn, 0, 0, 0, 1⟩ : It)] ++ [evItem n t nm o' l' k]) eD eD ∧ Fr (SS base qv w) w w' ∧ ∀ g, qv'.ownBlock = some g → (qv : Value).ownBlock = some g ∨ w.heap.size ≤ g := by
  have hmt : t.size ≤ maxLen := by rw [ht1]; unfold maxLen; omega
  have hmu : u.size ≤ maxLen := by rw [hu1]; unfold maxLen; omega
  have HTL : Hid (1 = t.data.toList.length) := (one_len hx1).symm
  have HX1 := hid hx1
  have HHT := hid ht1
  have HHU := hid hu1
  have hR1 := hR.below ((Below.refl _ w).alloc (Nat.le_refl _) (.cells #[.int .u8 k, .int .u8 0, .slice na nl nc, .slice aa an ac, .slice (some ⟨tg, 0, none⟩) 1 tc, .slice oa on oc, .slice la ln lc] 59))
  have hB1 := Blk.new w #[.int .u8 k, .int .u8 0, .slice na nl nc, .slice aa an ac, .slice (some ⟨tg, 0, none⟩) 1 tc, .slice oa on oc, .slice la ln lc] 59
  have hT1 := hT.alloc (.cells #[.int .u8 k, .int .u8 0, .slice na nl nc, .slice aa an ac, .slice (some ⟨tg, 0, none⟩) 1 tc, .slice oa on oc, .slice la ln lc] 59)
  have hLn1 : Ln w (w.alloc (.cells #[.int .u8 k, .int .u8 0, .slice na nl nc, .slice aa an ac, .slice (some ⟨tg, 0, none⟩) 1 tc, .slice oa on oc, .slice la ln lc] 59)) base lo w.heap.size qv #[.int .u8 k, .int .u8 0, .slice na nl nc, .slice aa an ac, .slice (some ⟨tg, 0, none⟩) 1 tc, .slice oa on oc, .slice la ln lc] (.slice (some ⟨tg, 0, none⟩) 1 tc) (.slice oa on oc) (.slice la ln lc) t.data.toList oB lB :=
    ⟨hN.below ((Below.refl _ w).alloc (Nat.le_refl _) _), hB1, hT1, hO.alloc _, hL.alloc _, (Fr.refl _ w).alloc _⟩
  have hp1 := hp.alloc (.cells #[.int .u8 k, .int .u8 0, .slice na nl nc, .slice aa an ac, .slice (some ⟨tg, 0, none⟩) 1 tc, .slice oa on oc, .slice la ln lc] 59)
  go_enter Ybaf.func10, Ybaf.ntmps10
  go_upto_region 1 with fail
  generalize (w.alloc (.cells #[.int .u8 k, .int .u8 0, .slice na nl nc, .slice aa an ac, .slice (some ⟨tg, 0, none⟩) 1 tc, .slice oa on oc, .slice la ln lc] 59)) = w1 at hR1 hB1 hT1 hLn1 hp1 ⊢
  have hcv := fun m => BySl.back (w := w1.drewN m) (lo := lo) (s := t) (hT1.below (bdrewN (Below.refl _ w1) m)) HTL.out
  have hlk := fun m => j_look (W := w1.drewN m) (b := mj) (n := nj) (D := (jD t j)) hR1.jo t hmt (jD_at t j)
  obtain ⟨x0, x1, x2, x3, x4, x5, x6, y7, y8, x9, x10, fx⟩ := hR1.blk.cells11
  obtain ⟨b0, b1, b2, b3, b4, b5, b6, bf⟩ := hB1.cells7
  have HLn1 := hid hLn1
  clear hLn1
  go_quiet (fail)
  have HR2 : Hid (Rdj (w1.drewN nq) base r mj ma nj na0 x7 x8 tv qv L (jD t j) eD) := hR1.below (bdrewN (Below.refl _ w1) nq)
  have HLn2 := hid (HLn1.out.below (bdrewN (Below.refl _ w1) nq))
  have HP2 := hid (hp1.drewN nq)
  clear hcv hlk x0 x1 x2 x3 x4 x5 x6 y7 y8 x9 x10 fx b0 b1 b2 b3 b4 b5 b6 bf hR1 hB1 hT1 HLn1 hR hN hT hO hL hp hp1 hx1 ht1 hu1
  generalize (w1.drewN nq) = w2 at HR2 HLn2 HP2 ⊢
  have HQ2 : Hid (∀ g, (qv : Value).ownBlock = some g → (qv : Value).ownBlock = some g ∨ w.heap.size ≤ g) := fun g hg => Or.inl hg
  obtain ⟨b0, b1, b2, b3, b4, b5, b6, bf⟩ := HLn2.out.bx.cells7
  obtain ⟨x0, x1, x2, x3, x4, x5, x6, y7, y8, x9, x10, fx⟩ := HR2.out.blk.cells11
  obtain ⟨z0, z1, z2, z3, z4, z5, z6, z7, z8, z9, fz⟩ := HP2.out.cells10
  obtain ⟨w3, hdl, hm, htu⟩ := j_del (W := w2.drew) (b := mj) (n := nj) (D := jD t j) HR2.out.jo t hmt 0
  rw [jD_del] at hm
  have HM := hid hm
  have HTU := hid htu
  clear hm htu
  go_wp2_with fail
  go_region
  have HR3 := hid ((HR2.out.below (Below.refl _ w2).drew).turnJ HTU.out HM.out)
  have HLn3 := hid ((HLn2.out.below (Below.refl _ w2).drew).step ((HR2.out.below (Below.refl _ w2).drew).ssJ HTU.out) HQ2.out (HR2.out.below (Below.refl _ w2).drew).q30 hb0)
  have HP3 := hid (HP2.out.drew.turn HR2.out.jo HTU.out)

  have HQ3 := HQ2
  clear b0 b1 b2 b3 b4 b5 b6 bf HR2 HLn2 HQ2 HP2 hdl HM HTU x0 x1 x2 x3 x4 x5 x6 y7 y8 x9 x10 fx z0 z1 z2 z3 z4 z5 z6 z7 z8 z9 fz
  obtain ⟨b0, b1, b2, b3, b4, b5, b6, bf⟩ := HLn3.out.bx.cells7
  go_wp2_with fail
  refine (unawait_no r j it t u (-1) rn w3 HP3.out (by decide)).mono ?_
  rintro e w4 ⟨rfl, hb4⟩
  have HR4 := hid (HR3.out.below hb4)
  have HLn4 := hid (HLn3.out.below hb4)
  have HP4 := hid (HP3.out.below hb4 HP3.out.lt)
  have HQ4 := HQ3
  clear hb4
  clear b0 b1 b2 b3 b4 b5 b6 bf HR3 HLn3 HQ3 HP3
  obtain ⟨b0, b1, b2, b3, b4, b5, b6, bf⟩ := HLn4.out.bx.cells7
  go_upto_region 5 with fail
  go_quiet (fail)
  have HR5 : Hid (Rdj (w4.drewN nq) base r mj ma nj na0 x7 x8 tv qv L eD eD) := HR4.out.below (bdrewN (Below.refl _ w4) nq)
  have HLn5 := hid (HLn4.out.below (bdrewN (Below.refl _ w4) nq))
  have HP5 : Hid (Blk (w4.drewN nq) j (pjA it t u (-1) rn) 43) := HP4.out.drewN nq
  have HQ5 := HQ4
  generalize (w4.drewN nq) = w5 at HR5 HLn5 HP5 ⊢
  clear b0 b1 b2 b3 b4 b5 b6 bf HR4 HLn4 HQ4 HP4
  obtain ⟨b0, b1, b2, b3, b4, b5, b6, bf⟩ := HLn5.out.bx.cells7
  go_wp2_with fail
  refine (alone_ran F r j base qv L 0 0 it.text it.line it.at_ it.en it.op it.st t u (-1) rn _ _ _ _ _ _ _ _ w5 (by rw [HLn5.out.f.tape]; exact hF) HR5.out.blk HP5.out HR5.out.q (by omega) HR5.out.lo (by decide)).mono ?_
  rintro e w6 ⟨g6, cap6, tx, rfl, hr6, hq6, f6, hg6⟩
  have HR6 := hid (HR5.out.push hr6 hq6 f6)
  have HLn6 := hid (HLn5.out.step (HR5.out.ssP f6) HQ5.out HR5.out.q30 hb0)
  have HQ6 : Hid (∀ g, (Value.slice (some ⟨g6, 0, none⟩) (L ++ [(⟨tx, rn, 0, 0, 0, 1⟩ : It)]).length cap6).ownBlock = some g → (qv : Value).ownBlock = some g ∨ w.heap.size ≤ g) := fun g hg => by
    simp [Value.ownBlock] at hg
    subst hg
    have := HLn5.out.f.size
    rcases hg6 with h | h
    · exact HQ5.out _ h
    · exact Or.inr (by omega)
  clear hr6 hq6 f6 hg6
  clear b0 b1 b2 b3 b4 b5 b6 bf HR5 HLn5 HQ5 HP5
  obtain ⟨b0, b1, b2, b3, b4, b5, b6, bf⟩ := HLn6.out.bx.cells7
  go_wp2_with fail
  refine (ran_empty r ma na0 n eD aR _ _ _ _ _ _ _ _ _ _ _ w6 HR6.out.blk HR6.out.aw rfl).mono ?_
  rintro e w7 ⟨rfl, hb7⟩
  have HR7 := hid (HR6.out.below hb7)
  have HLn7 := hid (HLn6.out.below hb7)

  have HQ7 := HQ6
  clear hb7
  clear b0 b1 b2 b3 b4 b5 b6 bf HR6 HLn6 HQ6
  obtain ⟨b0, b1, b2, b3, b4, b5, b6, bf⟩ := HLn7.out.bx.cells7
  obtain ⟨xt, hxt⟩ := HR7.out.t
  have HXT := hid hxt
  clear hxt
  go_wp2_with fail
  refine (event_any r base lo tv (.slice (some ⟨g6, 0, none⟩) (L ++ [(⟨tx, rn, 0, 0, 0, 1⟩ : It)]).length cap6) xt n k 0 k nm t oB lB na oa la nl nc tg tc ac on oc ln lc an aa 0 0 _ _ _ _ _ _ _ w7 HR7.out.blk HXT.out HLn7.out.nm h1 h2 hs HX1.out ho hl HR7.out.lo hb0 o' l' ho' hl' HLn7.out.t HLn7.out.o HLn7.out.l).mono ?_
  rintro e w8 ⟨tv8, xt8, rfl, hr8, ht8, f8⟩
  have HR8 := hid (HR7.out.event hr8 ht8 f8)
  have HLn8 := hid (HLn7.out.step (HR7.out.ssE f8) HQ7.out HR7.out.q30 hb0)

  have HQ8 := HQ7
  clear hr8 ht8 f8 HXT
  clear b0 b1 b2 b3 b4 b5 b6 bf HR7 HLn7 HQ7
  obtain ⟨b0, b1, b2, b3, b4, b5, b6, bf⟩ := HLn8.out.bx.cells7
  go_wp2_with fail
  refine (push_any r base (.slice (some ⟨g6, 0, none⟩) (L ++ [(⟨tx, rn, 0, 0, 0, 1⟩ : It)]).length cap6) (L ++ [(⟨tx, rn, 0, 0, 0, 1⟩ : It)]) (evItem n t nm o' l' k) 0 0 _ _ _ _ _ _ _ _ w8 HR8.out.blk HR8.out.q (by simp; omega) HR8.out.lo).mono ?_
  rintro e w9 ⟨g9, cap9, rfl, hr9, hq9, f9, hg9⟩
  have HR9 := hid (HR8.out.push hr9 hq9 f9)
  have HLn9 := hid (HLn8.out.step (HR8.out.ssP f9) HQ8.out HR8.out.q30 hb0)

  have HQ9 : Hid (∀ g, (Value.slice (some ⟨g9, 0, none⟩) ((L ++ [(⟨tx, rn, 0, 0, 0, 1⟩ : It)]) ++ [(evItem n t nm o' l' k)]).length cap9).ownBlock = some g → (qv : Value).ownBlock = some g ∨ w.heap.size ≤ g) := fun g hg => by
    simp [Value.ownBlock] at hg
    subst hg
    have := HLn8.out.f.size
    rcases hg9 with h | h
    · exact HQ8.out _ h
    · exact Or.inr (by omega)
  clear hr9 hq9 f9 hg9
  clear b0 b1 b2 b3 b4 b5 b6 bf HR8 HLn8 HQ8
  obtain ⟨b0, b1, b2, b3, b4, b5, b6, bf⟩ := HLn9.out.bx.cells7
  go_wp2
  go_end0
  exact ⟨rfl, _, _, _, HR9.out, HLn9.out.f, HQ9.out⟩
end Go.Proofs.YbulkawpsFmt
