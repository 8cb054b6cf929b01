import Derived.Test.YbulkawpsFmtJLine
/- 'Reader.place' (func 10) where Join lines are pending; written by a program. -/
namespace Go.Proofs.YbulkawpsFmt
open Go.RowKit
open Go.Extern.Stop Go.Stop Go.Extern
set_option linter.unusedVariables false
set_option maxRecDepth 100000
set_option maxHeartbeats 4000000 in
theorem place5s (base r mj ma nj na0 lo : Nat) (x7 x8 tv : Value) (q cap : Nat) (i0 : It) (t u : ByteArray) (j : Nat) (it : It) (rn : Int) (b c : Nat)  (n : Int) (na la : Option Addr) (nl nc tg tc ac ln lc an : Nat) (og on oc : Nat) (aa : Option Addr) (oB lB : List UInt8) (w : World) 
    (hR : Rdj w base r mj ma nj na0 x7 x8 tv (.slice (some ⟨q, 0, none⟩) 1 cap) [i0] (jD t j) (aD u b c)) (hN : Names w) (hp : Blk w j (pjA it t u 0 rn) 43) (hbj : base ≤ j) (ha : w.ownsRow base 41 1 (.slice (some ⟨b, 0, none⟩) 1 c) 1 [.pointer (some ⟨j, 0, none⟩)]) (ht1 : t.size = 1) (hu1 : u.size = 1) (hx1 : t.size = 1) (ho : oB.length ≤ 1) (hl : lB.length ≤ 2) (hb0 : 0 < base) (o' l' : ByteArray) (ho' : o'.data.toList = tOf 5 ++ oB) (hl' : l'.data.toList = lB)
    (hT : BySl w lo (.slice (some ⟨tg, 0, none⟩) 1 tc) t.data.toList) (hO : BySl w lo (.slice (some ⟨og, 0, none⟩) on oc) oB) (hL : BySl w lo (.slice la ln lc) lB) (hob : oB = u.data.toList) (hon : on = u.data.toList.length) :
    Calls Ybaf.prog 10 #[.pointer (some ⟨r, 0, none⟩), .agg #[.int .u8 6, .int .u8 5, .slice na nl nc, .slice aa an ac, .slice (some ⟨tg, 0, none⟩) 1 tc, .slice (some ⟨og, 0, none⟩) on oc, .slice la ln lc], .int .i64 n] w fun e w' => e = .returned (.tuple #[]) ∧ ∃ tv' qv', Rdj w' base r mj ma nj na0 x7 x8 tv' qv' ([itN] ++ [evItem n t ⟨#[106, 111, 105, 110]⟩ o' l' 6]) eD eD ∧ Fr (SS base (.slice (some ⟨q, 0, none⟩) 1 cap) w) w w' ∧ ∀ g, qv'.ownBlock = some g → ((.slice (some ⟨q, 0, none⟩) 1 cap) : Value).ownBlock = some g ∨ w.heap.size ≤ g := by
  have HOB := hid hob
  have HOL := hid hon
  clear hob hon
  have hmt : t.size ≤ maxLen := by rw [ht1]; unfold maxLen; omega
  have hmu : u.size ≤ maxLen := by rw [hu1]; unfold maxLen; omega
  have HTL : Hid (1 = t.data.toList.length) := (one_len hx1).symm
  have HX1 := hid hx1
  have HHT := hid ht1
  have HHU := hid hu1
  have hR1 := hR.below ((Below.refl _ w).alloc (Nat.le_refl _) (.cells #[.int .u8 6, .int .u8 5, .slice na nl nc, .slice aa an ac, .slice (some ⟨tg, 0, none⟩) 1 tc, .slice (some ⟨og, 0, none⟩) on oc, .slice la ln lc] 59))
  have hB1 := Blk.new w #[.int .u8 6, .int .u8 5, .slice na nl nc, .slice aa an ac, .slice (some ⟨tg, 0, none⟩) 1 tc, .slice (some ⟨og, 0, none⟩) on oc, .slice la ln lc] 59
  have hT1 := hT.alloc (.cells #[.int .u8 6, .int .u8 5, .slice na nl nc, .slice aa an ac, .slice (some ⟨tg, 0, none⟩) 1 tc, .slice (some ⟨og, 0, none⟩) on oc, .slice la ln lc] 59)
  have hLn1 : Ln w (w.alloc (.cells #[.int .u8 6, .int .u8 5, .slice na nl nc, .slice aa an ac, .slice (some ⟨tg, 0, none⟩) 1 tc, .slice (some ⟨og, 0, none⟩) on oc, .slice la ln lc] 59)) base lo w.heap.size (.slice (some ⟨q, 0, none⟩) 1 cap) #[.int .u8 6, .int .u8 5, .slice na nl nc, .slice aa an ac, .slice (some ⟨tg, 0, none⟩) 1 tc, .slice (some ⟨og, 0, none⟩) on oc, .slice la ln lc] (.slice (some ⟨tg, 0, none⟩) 1 tc) (.slice (some ⟨og, 0, none⟩) on oc) (.slice la ln lc) t.data.toList oB lB :=
    ⟨hN.below ((Below.refl _ w).alloc (Nat.le_refl _) _), hB1, hT1, hO.alloc _, hL.alloc _, (Fr.refl _ w).alloc _⟩
  have hp1 := hp.alloc (.cells #[.int .u8 6, .int .u8 5, .slice na nl nc, .slice aa an ac, .slice (some ⟨tg, 0, none⟩) 1 tc, .slice (some ⟨og, 0, none⟩) on oc, .slice la ln lc] 59)
  have ha1 := ha.alloc (.cells #[.int .u8 6, .int .u8 5, .slice na nl nc, .slice aa an ac, .slice (some ⟨tg, 0, none⟩) 1 tc, .slice (some ⟨og, 0, none⟩) on oc, .slice la ln lc] 59)
  go_enter Ybaf.func10, Ybaf.ntmps10
  go_upto_region 1 with fail
  generalize (w.alloc (.cells #[.int .u8 6, .int .u8 5, .slice na nl nc, .slice aa an ac, .slice (some ⟨tg, 0, none⟩) 1 tc, .slice (some ⟨og, 0, none⟩) on oc, .slice la ln lc] 59)) = w1 at hR1 hB1 hT1 hLn1 hp1 ha1 ⊢
  have hcv := fun m => BySl.back (w := w1.drewN m) (lo := lo) (s := t) (hT1.below (bdrewN (Below.refl _ w1) m)) HTL.out
  have hlk := fun m => j_look (W := w1.drewN m) (b := mj) (n := nj) (D := (jD t j)) hR1.jo t hmt (jD_at t j)
  obtain ⟨x0, x1, x2, x3, x4, x5, x6, y7, y8, x9, x10, fx⟩ := hR1.blk.cells11
  obtain ⟨b0, b1, b2, b3, b4, b5, b6, bf⟩ := hB1.cells7
  have HLn1 := hid hLn1
  clear hLn1
  go_quiet (fail)
  have HR2 : Hid (Rdj (w1.drewN nq) base r mj ma nj na0 x7 x8 tv (.slice (some ⟨q, 0, none⟩) 1 cap) [i0] (jD t j) (aD u b c)) := hR1.below (bdrewN (Below.refl _ w1) nq)
  have HLn2 := hid (HLn1.out.below (bdrewN (Below.refl _ w1) nq))
  have HP2 := hid (hp1.drewN nq)
  have HA2 := hid (row_fr ha1 (Fr.of_grown (bdrewN (Below.refl _ w1) nq)) (fun _ _ h => h))
  clear hcv hlk x0 x1 x2 x3 x4 x5 x6 y7 y8 x9 x10 fx b0 b1 b2 b3 b4 b5 b6 bf hR1 hB1 hT1 HLn1 hR hN hT hO hL hp hp1 ha ha1 hx1 ht1 hu1
  generalize (w1.drewN nq) = w2 at HR2 HLn2 HP2 HA2 ⊢
  have HQ2 : Hid (∀ g, ((.slice (some ⟨q, 0, none⟩) 1 cap) : Value).ownBlock = some g → ((.slice (some ⟨q, 0, none⟩) 1 cap) : Value).ownBlock = some g ∨ w.heap.size ≤ g) := fun g hg => Or.inl hg
  obtain ⟨b0, b1, b2, b3, b4, b5, b6, bf⟩ := HLn2.out.bx.cells7
  obtain ⟨x0, x1, x2, x3, x4, x5, x6, y7, y8, x9, x10, fx⟩ := HR2.out.blk.cells11
  obtain ⟨z0, z1, z2, z3, z4, z5, z6, z7, z8, z9, fz⟩ := HP2.out.cells10
  obtain ⟨w3, hdl, hm, htu⟩ := j_del (W := w2.drew) (b := mj) (n := nj) (D := jD t j) HR2.out.jo t hmt 0
  rw [jD_del] at hm
  have HM := hid hm
  have HTU := hid htu
  clear hm htu
  go_wp2_with fail
  go_region
  have HR3 := hid ((HR2.out.below (Below.refl _ w2).drew).turnJ HTU.out HM.out)
  have HLn3 := hid ((HLn2.out.below (Below.refl _ w2).drew).step ((HR2.out.below (Below.refl _ w2).drew).ssJ HTU.out) HQ2.out (HR2.out.below (Below.refl _ w2).drew).q30 hb0)
  have HP3 := hid (HP2.out.drew.turn HR2.out.jo HTU.out)
  have HA3 := hid (row_turn (World.ownsRow.drew HA2.out) HR2.out.jo HTU.out)
  have HQ3 := HQ2
  clear b0 b1 b2 b3 b4 b5 b6 bf HR2 HLn2 HQ2 HP2 HA2 hdl HM HTU x0 x1 x2 x3 x4 x5 x6 y7 y8 x9 x10 fx z0 z1 z2 z3 z4 z5 z6 z7 z8 z9 fz
  obtain ⟨b0, b1, b2, b3, b4, b5, b6, bf⟩ := HLn3.out.bx.cells7
  go_wp2_with fail
  refine (unawait_yes base r j mj ma nj na0 b c x7 x8 tv (.slice (some ⟨q, 0, none⟩) 1 cap) [i0] eD it t u 0 rn w3 HR3.out HP3.out (by decide) hmu HA3.out).mono ?_
  rintro e w4 ⟨rfl, hR4, f4⟩
  have HR4 := hid hR4
  have HLn4 := hid (HLn3.out.step (HR3.out.ssA' f4) HQ3.out HR3.out.q30 hb0)
  have HP4 := hid (HP3.out.fr f4 (map_ne HR3.out.aw HP3.out))
  have HQ4 := HQ3
  clear hR4 f4
  clear b0 b1 b2 b3 b4 b5 b6 bf HR3 HLn3 HQ3 HP3 HA3
  obtain ⟨b0, b1, b2, b3, b4, b5, b6, bf⟩ := HLn4.out.bx.cells7
  go_upto_region 5 with fail
  obtain ⟨z0, z1, z2, z3, z4, z5, z6, z7, z8, z9, fz⟩ := HP4.out.cells10
  have hcv := fun m => BySl.back (w := w4.drewN m) (lo := lo) (s := u) (HOB.out ▸ (HLn4.out.o.below (bdrewN (Below.refl _ w4) m))) HOL.out

  go_quiet (fail)
  have HR5 : Hid (Rdj (w4.drewN nq) base r mj ma nj na0 x7 x8 tv (.slice (some ⟨q, 0, none⟩) 1 cap) [i0] eD eD) := HR4.out.below (bdrewN (Below.refl _ w4) nq)
  have HLn5 := hid (HLn4.out.below (bdrewN (Below.refl _ w4) nq))
  have HP5 : Hid (Blk (w4.drewN nq) j (pjA it t u 0 rn) 43) := HP4.out.drewN nq
  have HQ5 := HQ4
  generalize (w4.drewN nq) = w5 at HR5 HLn5 HP5 ⊢
  clear b0 b1 b2 b3 b4 b5 b6 bf HR4 HLn4 HQ4 HP4 z0 z1 z2 z3 z4 z5 z6 z7 z8 z9 fz hcv
  obtain ⟨b0, b1, b2, b3, b4, b5, b6, bf⟩ := HLn5.out.bx.cells7
  obtain ⟨x0, x1, x2, x3, x4, x5, x6, y7, y8, x9, x10, fx⟩ := HR5.out.blk.cells11
  obtain ⟨z0, z1, z2, z3, z4, z5, z6, z7, z8, z9, fz⟩ := HP5.out.cells10
  have HQr : Hid (ItRow w5 base q cap [i0]) := HR5.out.q
  obtain ⟨p0, p1, p2, p3, p4, p5⟩ := HQr.out.cells (k := 0) (i := i0) rfl
  simp only [Nat.zero_mul, Nat.zero_add] at p0 p1 p2 p3 p4 p5
  have hfz := row_frozen HQr.out
  have hw0 : IntKind.i64.wrap 0 = 0 := by decide
  go_wp2_with fail
  go_region
  have hq6 : ItRow (((((((w5.setCell ⟨q, 0, none⟩ (.string ⟨#[]⟩)).setCell ⟨q, 1, none⟩ (.int .i64 0)).setCell ⟨q, 2, none⟩ (.int .u32 0)).setCell ⟨q, 3, none⟩ (.int .u32 0)).setCell ⟨q, 4, none⟩ (.int .u8 0)).setCell ⟨q, 5, none⟩ (.int .u8 3)).drew) base q cap [itN] := (zero_set HQr.out itN).drew
  have f6 : Fr (fun g => g = q) w5 (((((((w5.setCell ⟨q, 0, none⟩ (.string ⟨#[]⟩)).setCell ⟨q, 1, none⟩ (.int .i64 0)).setCell ⟨q, 2, none⟩ (.int .u32 0)).setCell ⟨q, 3, none⟩ (.int .u32 0)).setCell ⟨q, 4, none⟩ (.int .u8 0)).setCell ⟨q, 5, none⟩ (.int .u8 3)).drew) := (fr_set6 w5 q _ _ _ _ _ _ _ _ _ _ _ _).drew
  generalize (((((((w5.setCell ⟨q, 0, none⟩ (.string ⟨#[]⟩)).setCell ⟨q, 1, none⟩ (.int .i64 0)).setCell ⟨q, 2, none⟩ (.int .u32 0)).setCell ⟨q, 3, none⟩ (.int .u32 0)).setCell ⟨q, 4, none⟩ (.int .u8 0)).setCell ⟨q, 5, none⟩ (.int .u8 3)).drew) = w6 at hq6 f6 ⊢
  have HR6 := hid (HR5.out.set (L' := [itN]) rfl rfl hq6 f6)
  have HLn6 := hid (HLn5.out.step (HR5.out.ssQ rfl f6) HQ5.out HR5.out.q30 hb0)
  have HQ6 := HQ5
  clear hq6 f6 HQr
  clear b0 b1 b2 b3 b4 b5 b6 bf HR5 HLn5 HQ5 HP5 x0 x1 x2 x3 x4 x5 x6 y7 y8 x9 x10 fx z0 z1 z2 z3 z4 z5 z6 z7 z8 z9 fz p0 p1 p2 p3 p4 p5 hfz hw0
  obtain ⟨b0, b1, b2, b3, b4, b5, b6, bf⟩ := HLn6.out.bx.cells7
  go_wp2_with fail
  refine (ran_empty r ma na0 n eD aR _ _ _ _ _ _ _ _ _ _ _ w6 HR6.out.blk HR6.out.aw rfl).mono ?_
  rintro e w7 ⟨rfl, hb7⟩
  have HR7 := hid (HR6.out.below hb7)
  have HLn7 := hid (HLn6.out.below hb7)

  have HQ7 := HQ6
  clear hb7
  clear b0 b1 b2 b3 b4 b5 b6 bf HR6 HLn6 HQ6
  obtain ⟨b0, b1, b2, b3, b4, b5, b6, bf⟩ := HLn7.out.bx.cells7
  obtain ⟨xt, hxt⟩ := HR7.out.t
  have HXT := hid hxt
  clear hxt
  go_wp2_with fail
  refine (event_any r base lo tv (.slice (some ⟨q, 0, none⟩) 1 cap) xt n 6 5 6 ⟨#[106, 111, 105, 110]⟩ t oB lB na (some ⟨og, 0, none⟩) la nl nc tg tc ac on oc ln lc an aa 0 0 _ _ _ _ _ _ _ w7 HR7.out.blk HXT.out HLn7.out.nm (by decide) (by decide) rfl HX1.out ho hl HR7.out.lo hb0 o' l' ho' hl' HLn7.out.t HLn7.out.o HLn7.out.l).mono ?_
  rintro e w8 ⟨tv8, xt8, rfl, hr8, ht8, f8⟩
  have HR8 := hid (HR7.out.event hr8 ht8 f8)
  have HLn8 := hid (HLn7.out.step (HR7.out.ssE f8) HQ7.out HR7.out.q30 hb0)

  have HQ8 := HQ7
  clear hr8 ht8 f8 HXT
  clear b0 b1 b2 b3 b4 b5 b6 bf HR7 HLn7 HQ7
  obtain ⟨b0, b1, b2, b3, b4, b5, b6, bf⟩ := HLn8.out.bx.cells7
  go_wp2_with fail
  refine (push_any r base (.slice (some ⟨q, 0, none⟩) 1 cap) [itN] (evItem n t ⟨#[106, 111, 105, 110]⟩ o' l' 6) 0 0 _ _ _ _ _ _ _ _ w8 HR8.out.blk HR8.out.q (by simp) HR8.out.lo).mono ?_
  rintro e w9 ⟨g9, cap9, rfl, hr9, hq9, f9, hg9⟩
  have HR9 := hid (HR8.out.push hr9 hq9 f9)
  have HLn9 := hid (HLn8.out.step (HR8.out.ssP f9) HQ8.out HR8.out.q30 hb0)

  have HQ9 : Hid (∀ g, (Value.slice (some ⟨g9, 0, none⟩) ([itN] ++ [(evItem n t ⟨#[106, 111, 105, 110]⟩ o' l' 6)]).length cap9).ownBlock = some g → ((.slice (some ⟨q, 0, none⟩) 1 cap) : Value).ownBlock = some g ∨ w.heap.size ≤ g) := fun g hg => by
    simp [Value.ownBlock] at hg
    subst hg
    have := HLn8.out.f.size
    rcases hg9 with h | h
    · exact HQ8.out _ h
    · exact Or.inr (by omega)
  clear hr9 hq9 f9 hg9
  clear b0 b1 b2 b3 b4 b5 b6 bf HR8 HLn8 HQ8
  obtain ⟨b0, b1, b2, b3, b4, b5, b6, bf⟩ := HLn9.out.bx.cells7
  go_wp2
  refine bodyPost_ret (v := .tuple #[]) (by simp [results, Ybaf.results10, go_sem]) rfl ?_
  exact ⟨rfl, _, _, HR9.out, HLn9.out.f, HQ9.out⟩
end Go.Proofs.YbulkawpsFmt
