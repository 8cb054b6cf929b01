import Derived.Test.YbulkawpsFmtJplace5n
import Derived.Deep.RegionHeld3
/- 'Reader.place' (func 10) where Join lines are pending; written by a program. -/
namespace Go.Proofs.YbulkawpsFmt
open Go.RowKit
open Go.Extern.Stop Go.Stop Go.Extern
set_option linter.unusedVariables false
set_option maxRecDepth 100000
set_option maxHeartbeats 4000000 in
theorem place5d (base r mj ma nj na0 lo : Nat) (x7 x8 tv : Value) (q cap : Nat) (i0 : It) (t u : ByteArray) (j : Nat) (it : It) (rn : Int) (b c : Nat)  (n : Int) (na la : Option Addr) (nl nc tg tc ac ln lc an : Nat) (og on oc : Nat) (aa : Option Addr) (oB lB : List UInt8) (w : World) 
    (hR : Rdj w base r mj ma nj na0 x7 x8 tv (.slice (some ⟨q, 0, none⟩) 1 cap) [i0] (jD t j) (aD u b c)) (hN : Names w) (hp : Blk w j (pjA it t u 0 rn) 43) (hbj : base ≤ j) (ha : w.ownsRow base 41 1 (.slice (some ⟨b, 0, none⟩) 1 c) 1 [.pointer (some ⟨j, 0, none⟩)]) (ht1 : t.size = 1) (hu1 : u.size = 1) (hx1 : t.size = 1) (ho : oB.length ≤ 1) (hl : lB.length ≤ 2) (hb0 : 0 < base) (o' l' : ByteArray) (ho' : o'.data.toList = tOf 5 ++ oB) (hl' : l'.data.toList = lB)
    (hT : BySl w lo (.slice (some ⟨tg, 0, none⟩) 1 tc) t.data.toList) (hO : BySl w lo (.slice (some ⟨og, 0, none⟩) on oc) oB) (hL : BySl w lo (.slice la ln lc) lB) (v : ByteArray) (hv1 : v.size = 1) (huv0 : (u.toList == v.toList) = false) (huv9 : u ≠ v) (hnj : nj < maxLen) (hna : na0 < maxLen) (hob : oB = v.data.toList) (hon : on = v.data.toList.length) :
    Calls Ybaf.prog 10 #[.pointer (some ⟨r, 0, none⟩), .agg #[.int .u8 6, .int .u8 5, .slice na nl nc, .slice aa an ac, .slice (some ⟨tg, 0, none⟩) 1 tc, .slice (some ⟨og, 0, none⟩) on oc, .slice la ln lc], .int .i64 n] w fun e w' => e = .returned (.tuple #[]) ∧ ∃ tv' qv' j' b' c', Rdj w' base r mj ma (nj + 1) (na0 + 1) x7 x8 tv' qv' ([it] ++ [itH]) (jD t j') (aD v b' c') ∧ Blk w' j' (pjA (evItem n t ⟨#[106, 111, 105, 110]⟩ o' l' 6) t v ([it].length : Nat) 0) 43 ∧ base ≤ j' ∧ w'.ownsRow base 41 1 (.slice (some ⟨b', 0, none⟩) 1 c') 1 [.pointer (some ⟨j', 0, none⟩)] ∧ Fr (SS base (.slice (some ⟨q, 0, none⟩) 1 cap) w) w w' ∧ ∀ g, qv'.ownBlock = some g → ((.slice (some ⟨q, 0, none⟩) 1 cap) : Value).ownBlock = some g ∨ w.heap.size ≤ g := by
  have HOB := hid hob
  have HOL := hid hon
  have HUV := hid huv0
  have HUW := hid (decide_eq_false huv9)
  have hmv : v.size ≤ maxLen := by rw [hv1]; unfold maxLen; omega
  clear hob hon huv0 huv9 hv1
  have hmt : t.size ≤ maxLen := by rw [ht1]; unfold maxLen; omega
  have hmu : u.size ≤ maxLen := by rw [hu1]; unfold maxLen; omega
  have HTL : Hid (1 = t.data.toList.length) := (one_len hx1).symm
  have HX1 := hid hx1
  have HHT := hid ht1
  have HHU := hid hu1
  have hR1 := hR.below ((Below.refl _ w).alloc (Nat.le_refl _) (.cells #[.int .u8 6, .int .u8 5, .slice na nl nc, .slice aa an ac, .slice (some ⟨tg, 0, none⟩) 1 tc, .slice (some ⟨og, 0, none⟩) on oc, .slice la ln lc] 59))
  have hB1 := Blk.new w #[.int .u8 6, .int .u8 5, .slice na nl nc, .slice aa an ac, .slice (some ⟨tg, 0, none⟩) 1 tc, .slice (some ⟨og, 0, none⟩) on oc, .slice la ln lc] 59
  have hT1 := hT.alloc (.cells #[.int .u8 6, .int .u8 5, .slice na nl nc, .slice aa an ac, .slice (some ⟨tg, 0, none⟩) 1 tc, .slice (some ⟨og, 0, none⟩) on oc, .slice la ln lc] 59)
  have hLn1 : Ln w (w.alloc (.cells #[.int .u8 6, .int .u8 5, .slice na nl nc, .slice aa an ac, .slice (some ⟨tg, 0, none⟩) 1 tc, .slice (some ⟨og, 0, none⟩) on oc, .slice la ln lc] 59)) base lo w.heap.size (.slice (some ⟨q, 0, none⟩) 1 cap) #[.int .u8 6, .int .u8 5, .slice na nl nc, .slice aa an ac, .slice (some ⟨tg, 0, none⟩) 1 tc, .slice (some ⟨og, 0, none⟩) on oc, .slice la ln lc] (.slice (some ⟨tg, 0, none⟩) 1 tc) (.slice (some ⟨og, 0, none⟩) on oc) (.slice la ln lc) t.data.toList oB lB :=
    ⟨hN.below ((Below.refl _ w).alloc (Nat.le_refl _) _), hB1, hT1, hO.alloc _, hL.alloc _, (Fr.refl _ w).alloc _⟩
  have hp1 := hp.alloc (.cells #[.int .u8 6, .int .u8 5, .slice na nl nc, .slice aa an ac, .slice (some ⟨tg, 0, none⟩) 1 tc, .slice (some ⟨og, 0, none⟩) on oc, .slice la ln lc] 59)
  have ha1 := ha.alloc (.cells #[.int .u8 6, .int .u8 5, .slice na nl nc, .slice aa an ac, .slice (some ⟨tg, 0, none⟩) 1 tc, .slice (some ⟨og, 0, none⟩) on oc, .slice la ln lc] 59)
  go_enter Ybaf.func10, Ybaf.ntmps10
  go_upto_region 1 with fail
  generalize (w.alloc (.cells #[.int .u8 6, .int .u8 5, .slice na nl nc, .slice aa an ac, .slice (some ⟨tg, 0, none⟩) 1 tc, .slice (some ⟨og, 0, none⟩) on oc, .slice la ln lc] 59)) = w1 at hR1 hB1 hT1 hLn1 hp1 ha1 ⊢
  have hcv := fun m => BySl.back (w := w1.drewN m) (lo := lo) (s := t) (hT1.below (bdrewN (Below.refl _ w1) m)) HTL.out
  have hlk := fun m => j_look (W := w1.drewN m) (b := mj) (n := nj) (D := (jD t j)) hR1.jo t hmt (jD_at t j)
  obtain ⟨x0, x1, x2, x3, x4, x5, x6, y7, y8, x9, x10, fx⟩ := hR1.blk.cells11
  obtain ⟨b0, b1, b2, b3, b4, b5, b6, bf⟩ := hB1.cells7
  have HLn1 := hid hLn1
  clear hLn1
  go_quiet (fail)
  have HR2 : Hid (Rdj (w1.drewN nq) base r mj ma nj na0 x7 x8 tv (.slice (some ⟨q, 0, none⟩) 1 cap) [i0] (jD t j) (aD u b c)) := hR1.below (bdrewN (Below.refl _ w1) nq)
  have HLn2 := hid (HLn1.out.below (bdrewN (Below.refl _ w1) nq))
  have HP2 := hid (hp1.drewN nq)
  have HA2 := hid (row_fr ha1 (Fr.of_grown (bdrewN (Below.refl _ w1) nq)) (fun _ _ h => h))
  clear hcv hlk x0 x1 x2 x3 x4 x5 x6 y7 y8 x9 x10 fx b0 b1 b2 b3 b4 b5 b6 bf hR1 hB1 hT1 HLn1 hR hN hT hO hL hp hp1 ha ha1 hx1 ht1 hu1
  generalize (w1.drewN nq) = w2 at HR2 HLn2 HP2 HA2 ⊢
  have HQ2 : Hid (∀ g, ((.slice (some ⟨q, 0, none⟩) 1 cap) : Value).ownBlock = some g → ((.slice (some ⟨q, 0, none⟩) 1 cap) : Value).ownBlock = some g ∨ w.heap.size ≤ g) := fun g hg => Or.inl hg
  obtain ⟨b0, b1, b2, b3, b4, b5, b6, bf⟩ := HLn2.out.bx.cells7
  obtain ⟨x0, x1, x2, x3, x4, x5, x6, y7, y8, x9, x10, fx⟩ := HR2.out.blk.cells11
  obtain ⟨z0, z1, z2, z3, z4, z5, z6, z7, z8, z9, fz⟩ := HP2.out.cells10
  obtain ⟨w3, hdl, hm, htu⟩ := j_del (W := w2.drew) (b := mj) (n := nj) (D := jD t j) HR2.out.jo t hmt 0
  rw [jD_del] at hm
  have HM := hid hm
  have HTU := hid htu
  clear hm htu
  go_wp2_with fail
  go_region
  have HR3 := hid ((HR2.out.below (Below.refl _ w2).drew).turnJ HTU.out HM.out)
  have HLn3 := hid ((HLn2.out.below (Below.refl _ w2).drew).step ((HR2.out.below (Below.refl _ w2).drew).ssJ HTU.out) HQ2.out (HR2.out.below (Below.refl _ w2).drew).q30 hb0)
  have HP3 := hid (HP2.out.drew.turn HR2.out.jo HTU.out)
  have HA3 := hid (row_turn (World.ownsRow.drew HA2.out) HR2.out.jo HTU.out)
  have HQ3 := HQ2
  clear b0 b1 b2 b3 b4 b5 b6 bf HR2 HLn2 HQ2 HP2 HA2 hdl HM HTU x0 x1 x2 x3 x4 x5 x6 y7 y8 x9 x10 fx z0 z1 z2 z3 z4 z5 z6 z7 z8 z9 fz
  obtain ⟨b0, b1, b2, b3, b4, b5, b6, bf⟩ := HLn3.out.bx.cells7
  go_wp2_with fail
  refine (unawait_yes base r j mj ma nj na0 b c x7 x8 tv (.slice (some ⟨q, 0, none⟩) 1 cap) [i0] eD it t u 0 rn w3 HR3.out HP3.out (by decide) hmu HA3.out).mono ?_
  rintro e w4 ⟨rfl, hR4, f4⟩
  have HR4 := hid hR4
  have HLn4 := hid (HLn3.out.step (HR3.out.ssA' f4) HQ3.out HR3.out.q30 hb0)
  have HP4 := hid (HP3.out.fr f4 (map_ne HR3.out.aw HP3.out))
  have HQ4 := HQ3
  clear hR4 f4
  clear b0 b1 b2 b3 b4 b5 b6 bf HR3 HLn3 HQ3 HP3 HA3
  obtain ⟨b0, b1, b2, b3, b4, b5, b6, bf⟩ := HLn4.out.bx.cells7
  go_upto_region 5 with fail
  obtain ⟨z0, z1, z2, z3, z4, z5, z6, z7, z8, z9, fz⟩ := HP4.out.cells10
  have hcv := fun m => BySl.back (w := w4.drewN m) (lo := lo) (s := v) (HOB.out ▸ (HLn4.out.o.below (bdrewN (Below.refl _ w4) m))) HOL.out
  have huv := HUV.out
  have huv2 := HUW.out
  go_quiet (fail)
  have HR5 : Hid (Rdj (w4.drewN nq) base r mj ma nj na0 x7 x8 tv (.slice (some ⟨q, 0, none⟩) 1 cap) [i0] eD eD) := HR4.out.below (bdrewN (Below.refl _ w4) nq)
  have HLn5 := hid (HLn4.out.below (bdrewN (Below.refl _ w4) nq))
  have HP5 : Hid (Blk (w4.drewN nq) j (pjA it t u 0 rn) 43) := HP4.out.drewN nq
  have HQ5 := HQ4
  generalize (w4.drewN nq) = w5 at HR5 HLn5 HP5 ⊢
  clear b0 b1 b2 b3 b4 b5 b6 bf HR4 HLn4 HQ4 HP4 z0 z1 z2 z3 z4 z5 z6 z7 z8 z9 fz hcv huv huv2
  obtain ⟨b0, b1, b2, b3, b4, b5, b6, bf⟩ := HLn5.out.bx.cells7
  go_wp2_with fail
  refine (alone_held r j base q cap 0 0 [i0] 0 it t u rn _ _ _ _ _ _ _ _ w5 HR5.out.blk (by simpa using HP5.out) HR5.out.q (by simp) (by simp) (by decide) (by decide)).mono ?_
  rintro e w6 ⟨rfl, hq6, f6⟩
  have HR6 := hid (HR5.out.set (L' := [it]) rfl rfl hq6 f6)
  have HLn6 := hid (HLn5.out.step (HR5.out.ssQ rfl f6) HQ5.out HR5.out.q30 hb0)
  have HQ6 := HQ5
  clear hq6 f6
  clear b0 b1 b2 b3 b4 b5 b6 bf HR5 HLn5 HQ5 HP5
  obtain ⟨b0, b1, b2, b3, b4, b5, b6, bf⟩ := HLn6.out.bx.cells7
  go_wp2_with fail
  refine (ran_empty r ma na0 n eD aR _ _ _ _ _ _ _ _ _ _ _ w6 HR6.out.blk HR6.out.aw rfl).mono ?_
  rintro e w7 ⟨rfl, hb7⟩
  have HR7 := hid (HR6.out.below hb7)
  have HLn7 := hid (HLn6.out.below hb7)

  have HQ7 := HQ6
  clear hb7
  clear b0 b1 b2 b3 b4 b5 b6 bf HR6 HLn6 HQ6
  obtain ⟨b0, b1, b2, b3, b4, b5, b6, bf⟩ := HLn7.out.bx.cells7
  obtain ⟨xt, hxt⟩ := HR7.out.t
  have HXT := hid hxt
  clear hxt
  go_upto_region 35 with fail
  have hct1 := BySl.back (w := w7.drew) (lo := lo) (s := t) (HLn7.out.t.below (Below.refl _ w7).drew) HTL.out
  have hco1 := BySl.back (w := w7.drew) (lo := lo) (s := v) (HOB.out ▸ (HLn7.out.o.below (Below.refl _ w7).drew)) HOL.out
  have hct0 := BySl.back (w := w7) (lo := lo) (s := t) HLn7.out.t HTL.out
  have hco0 := BySl.back (w := w7) (lo := lo) (s := v) (HOB.out ▸ HLn7.out.o) HOL.out
  go_region_held3 (fun w' => w'.cell? ⟨w.heap.size, 0, none⟩ = some (.int .u8 6) ∧ w'.cell? ⟨w.heap.size, 1, none⟩ = some (.int .u8 5) ∧ w'.cell? ⟨w.heap.size, 2, none⟩ = some (.slice na nl nc) ∧ w'.cell? ⟨w.heap.size, 3, none⟩ = some (.slice aa an ac) ∧ w'.cell? ⟨w.heap.size, 4, none⟩ = some (.slice (some ⟨tg, 0, none⟩) 1 tc) ∧ w'.cell? ⟨w.heap.size, 5, none⟩ = some (.slice (some ⟨og, 0, none⟩) on oc) ∧ w'.cell? ⟨w.heap.size, 6, none⟩ = some (.slice la ln lc) ∧ (convert 33 9 (.slice (some ⟨tg, 0, none⟩) 1 tc)).run Ybaf.prog w' = .ok (.string t) w' ∧ (convert 33 9 (.slice (some ⟨og, 0, none⟩) on oc)).run Ybaf.prog w' = .ok (.string v) w')
    (go_keep) (first
    | (go_at_call 18
       refine (event_any r base lo tv (.slice (some ⟨q, 0, none⟩) 1 cap) xt n 6 5 6 ⟨#[106, 111, 105, 110]⟩ t oB lB na (some ⟨og, 0, none⟩) la nl nc tg tc ac on oc ln lc an aa 0 0 _ _ _ _ _ _ _ w7.drew (HR7.out.below (Below.refl _ w7).drew).blk (by exact World.ownsRow.drew HXT.out) (HLn7.out.below (Below.refl _ w7).drew).nm (by decide) (by decide) rfl HX1.out ho hl HR7.out.lo hb0 o' l' ho' hl' (HLn7.out.below (Below.refl _ w7).drew).t (HLn7.out.below (Below.refl _ w7).drew).o (HLn7.out.below (Below.refl _ w7).drew).l).mono ?_
       rintro e w8 ⟨tv8, xt8, rfl, hr8, ht8, f8⟩
       have HR8 := hid ((HR7.out.below (Below.refl _ w7).drew).event hr8 ht8 f8)
       have HLn8 := hid ((HLn7.out.below (Below.refl _ w7).drew).step ((HR7.out.below (Below.refl _ w7).drew).ssE f8) HQ7.out (HR7.out.below (Below.refl _ w7).drew).q30 hb0)
       have hct2 := BySl.back (w := w8) (lo := lo) (s := t) HLn8.out.t HTL.out
       have hco2 := BySl.back (w := w8) (lo := lo) (s := v) (HOB.out ▸ HLn8.out.o) HOL.out
       have hct3 := fun oo => BySl.back (w := w8.alloc oo) (lo := lo) (s := t) (HLn8.out.t.alloc oo) HTL.out
       have hco3 := fun oo => BySl.back (w := w8.alloc oo) (lo := lo) (s := v) (HOB.out ▸ (HLn8.out.o.alloc oo)) HOL.out
       obtain ⟨e0, e1, e2, e3, e4, e5, e6, ef⟩ := HLn8.out.bx.cells7
       obtain ⟨iv, hiv⟩ : ∃ z, evItem n t ⟨#[106, 111, 105, 110]⟩ o' l' 6 = z := ⟨_, rfl⟩
       have HIV := hid hiv
       rw [hiv]
       simp only [It.v]
       clear hr8 ht8 f8 hiv))
  have HP9 : Hid (Blk (w8.alloc (.cells (pjA iv t v 0 0) 43)) w8.heap.size (pjA iv t v 0 0) 43) := Blk.new _ _ _
  have HR9 := hid (HR8.out.below ((Below.refl _ w8).alloc (Nat.le_refl _) (.cells (pjA iv t v 0 0) 43)))
  have HLn9 := hid (HLn8.out.below ((Below.refl _ w8).alloc (Nat.le_refl _) (.cells (pjA iv t v 0 0) 43)))
  have HBJ : Hid (base ≤ w8.heap.size) := HR8.out.lo
  have HQ9 := HQ7
  generalize (w8.alloc (.cells (pjA iv t v 0 0) 43)) = w9 at HP9 HR9 HLn9 ⊢
  generalize w8.heap.size = j' at HP9 HBJ ⊢
  clear hct0 hct1 hct2 hct3 hco0 hco1 hco2 hco3 e0 e1 e2 e3 e4 e5 e6 ef b0 b1 b2 b3 b4 b5 b6 bf HXT HR8 HLn8 HR7 HLn7 HQ7
  have hwr : IntKind.i64.wrap ((0 : Int) + (([it].length : Nat) : Int)) = ([it].length : Nat) := by rw [IntKind.wrap_i64]; simp
  go_wp2_with fail
  refine (push_any r base (.slice (some ⟨q, 0, none⟩) 1 cap) [it] itH 0 0 _ _ _ _ _ _ _ _ w9 HR9.out.blk HR9.out.q (by simp) HR9.out.lo).mono ?_
  rintro e w10 ⟨g10, cap10, rfl, hr10, hq10, f10, hg10⟩
  rw [hwr]
  have HR10 := hid (HR9.out.push hr10 hq10 f10)
  have HLn10 := hid (HLn9.out.step (HR9.out.ssP f10) HQ9.out HR9.out.q30 hb0)
  have HP10 := hid (HR9.out.pjP HP9.out (Or.inl rfl) f10)
  have HQ10 : Hid (∀ g, (Value.slice (some ⟨g10, 0, none⟩) ([it] ++ [itH]).length cap10).ownBlock = some g → ((.slice (some ⟨q, 0, none⟩) 1 cap) : Value).ownBlock = some g ∨ w.heap.size ≤ g) := fun g hg => by
    simp [Value.ownBlock] at hg
    subst hg
    have := HLn9.out.f.size
    rcases hg10 with h | h
    · exact HQ9.out _ h
    · exact Or.inr (by omega)
  clear hr10 hq10 f10 hg10 hwr HR9 HLn9 HP9 HQ9
  generalize hkl : (([it].length : Nat) : Int) = sl
  have HKL := hid hkl
  clear hkl
  obtain ⟨z0, z1, z2, z3, z4, z5, z6, z7, z8, z9, fz⟩ := HP10.out.cells10
  go_upto_region 37 with fail
  have f11 : Fr (fun g => g = j') w10 (w10.setCell ⟨j', 8, none⟩ (.int .i64 sl)) := (Fr.refl (fun g => g = j') w10).setCell (fun _ => rfl) _
  have HR11 := hid (HR10.out.pj HP10.out f11)
  have HLn11 := hid (HLn10.out.step (ss43 HBJ.out HP10.out f11) HQ10.out HR10.out.q30 hb0)
  have HP11 : Hid (Blk (w10.setCell ⟨j', 8, none⟩ (.int .i64 sl)) j' (pjA iv t v sl 0) 43) := HP10.out.set 8 (.int .i64 sl)
  have HQ11 := HQ10
  generalize (w10.setCell ⟨j', 8, none⟩ (.int .i64 sl)) = w11 at HR11 HLn11 HP11 ⊢
  clear f11 z0 z1 z2 z3 z4 z5 z6 z7 z8 z9 fz HR10 HLn10 HP10 HQ10
  obtain ⟨x0, x1, x2, x3, x4, x5, x6, y7, y8, x9, x10, fx⟩ := HR11.out.blk.cells11
  obtain ⟨z0, z1, z2, z3, z4, z5, z6, z7, z8, z9, fz⟩ := HP11.out.cells10
  obtain ⟨w12, hup, hm, htu⟩ := j_put (W := w11.drew) (b := mj) (n := nj) (D := eD) HR11.out.jo t hmt hnj j'
  rw [jD_put] at hm
  have HM := hid hm
  have HTU := hid htu
  clear hm htu
  go_region
  have HR12 := hid ((HR11.out.below (Below.refl _ w11).drew).turnJ HTU.out HM.out)
  have HLn12 := hid ((HLn11.out.below (Below.refl _ w11).drew).step ((HR11.out.below (Below.refl _ w11).drew).ssJ HTU.out) HQ11.out (HR11.out.below (Below.refl _ w11).drew).q30 hb0)
  have HP12 := hid (HP11.out.drew.turn HR11.out.jo HTU.out)
  have HQ12 := HQ11
  clear hup HM HTU x0 x1 x2 x3 x4 x5 x6 y7 y8 x9 x10 fx z0 z1 z2 z3 z4 z5 z6 z7 z8 z9 fz HR11 HLn11 HP11 HQ11
  go_upto_region 38 with fail
  obtain ⟨x0, x1, x2, x3, x4, x5, x6, y7, y8, x9, x10, fx⟩ := HR12.out.blk.cells11
  obtain ⟨z0, z1, z2, z3, z4, z5, z6, z7, z8, z9, fz⟩ := HP12.out.cells10
  have hl0 := a_none (W := w12.drew) (b := ma) (n := na0) (D := eD) HR12.out.aw v hmv (eD_at _)
  have hl1 := fun oo => a_none (W := (w12.alloc oo).drew) (b := ma) (n := na0) (D := eD) (HR12.out.below ((Below.refl _ w12).alloc (Nat.le_refl _) oo).drew).aw v hmv (eD_at _)
  go_region_held3 (fun w' => w'.cell? ⟨r, 10, none⟩ = some (.map (some ma)) ∧ w'.cell? ⟨j', 7, none⟩ = some (.string v))
    (go_keep) (first
    | (refine step_app1 rfl (.tmp 232) (.tmp 234) 64 rfl 41 _ 1 8 Ybaf.underlying64 info41 rfl (by decide) base w12.heap.size (.slice none 0 0) 0 [] #[.pointer (some ⟨j', 0, none⟩)] (by go_simp) (by go_simp) (by exact ⟨by simp, Or.inl ⟨rfl, rfl⟩⟩) (by exact Blk.new' (by simp)) rfl (by simp [Value.oneCell']) (by decide) (by decide) (by have := HR12.out.lo; simp; omega) ?_
       intro g13 cap13 w13 own13 fr13 at13 lt13
       have HA13 : Hid (w13.ownsRow base 41 1 (.slice (some ⟨g13, 0, none⟩) 1 cap13) 1 [.pointer (some ⟨j', 0, none⟩)]) := own13
       have hb13 : Below w12.heap.size w12 w13 := Fr.to_grown (Fr.trans (((Fr.refl (fun _ => False) w12).alloc _).drew) fr13 (fun k _ h => by simp [Value.ownBlock] at h))
       have HR13 := hid (HR12.out.below hb13)
       have HLn13 := hid (HLn12.out.below hb13)
       have HP13 := hid (HP12.out.below hb13 HP12.out.lt)
       obtain ⟨w14, hup, hm, htu⟩ := a_put (W := w13) (b := ma) (n := na0) (D := eD) HR13.out.aw v hmv hna g13 cap13
       rw [aD_put] at hm
       have HR14 := hid (HR13.out.turnA htu hm)
       have HLn14 := hid (HLn13.out.step (HR13.out.ssA htu) HQ12.out HR13.out.q30 hb0)
       have HP14 := hid (HP13.out.turn HR13.out.aw htu)
       have HA14 := hid (row_turn HA13.out HR13.out.aw htu)
       obtain ⟨_, _, _, _, _, _, _, _, _, _, xa10, _⟩ := HR13.out.blk.cells11
       obtain ⟨_, _, _, _, _, _, _, za7, _⟩ := HP13.out.cells10
       obtain ⟨_, _, _, _, _, _, _, _, _, _, xb10, _⟩ := HR14.out.blk.cells11
       obtain ⟨_, _, _, _, _, _, _, zb7, _⟩ := HP14.out.cells10
       clear own13 fr13 at13 hm htu hb13))
  all_goals go_wp2
  all_goals go_end0
  all_goals exact ⟨rfl, _, _, j', g13, cap13, HR14.out, by have := HP14.out; rw [← HIV.out, ← HKL.out] at this; exact this, HBJ.out, HA14.out, HLn14.out.f, HQ12.out⟩
end Go.Proofs.YbulkawpsFmt
