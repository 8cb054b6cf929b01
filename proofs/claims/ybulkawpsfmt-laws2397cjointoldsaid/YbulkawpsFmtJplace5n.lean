import Derived.Test.YbulkawpsFmtJLine
import Derived.Deep.RegionHeld3
/- 'Reader.place' (func 10) where Join lines are pending; written by a program. -/
namespace Go.Proofs.YbulkawpsFmt
open Go.RowKit
open Go.Extern.Stop Go.Stop Go.Extern
set_option linter.unusedVariables false
set_option maxRecDepth 100000
theorem info41 : (Ybaf.prog.info? 41).map (fun i => (i.zero, i.size, i.bytes)) = some (some (.pointer none), 1, 8) := by kernel_rfl
set_option maxHeartbeats 4000000 in
theorem place5n (base r mj ma nj na0 lo : Nat) (x7 x8 tv : Value) (qv : Value) (L : List It) (t u : ByteArray)  (n : Int) (na la : Option Addr) (nl nc tg tc ac ln lc an : Nat) (og on oc : Nat) (aa : Option Addr) (oB lB : List UInt8) (w : World) 
    (hR : Rdj w base r mj ma nj na0 x7 x8 tv qv L eD eD) (hN : Names w) (ht1 : t.size = 1) (hu1 : u.size = 1) (hLn : L.length < 99999) (hx1 : t.size = 1) (ho : oB.length ≤ 1) (hl : lB.length ≤ 2) (hb0 : 0 < base) (o' l' : ByteArray) (ho' : o'.data.toList = tOf 5 ++ oB) (hl' : l'.data.toList = lB)
    (hT : BySl w lo (.slice (some ⟨tg, 0, none⟩) 1 tc) t.data.toList) (hO : BySl w lo (.slice (some ⟨og, 0, none⟩) on oc) oB) (hL : BySl w lo (.slice la ln lc) lB) (hnj : nj < maxLen) (hna : na0 < maxLen) (hob : oB = u.data.toList) (hon : on = u.data.toList.length) :
    Calls Ybaf.prog 10 #[.pointer (some ⟨r, 0, none⟩), .agg #[.int .u8 6, .int .u8 5, .slice na nl nc, .slice aa an ac, .slice (some ⟨tg, 0, none⟩) 1 tc, .slice (some ⟨og, 0, none⟩) on oc, .slice la ln lc], .int .i64 n] w fun e w' => e = .returned (.tuple #[]) ∧ ∃ tv' qv' j b c, Rdj w' base r mj ma (nj + 1) (na0 + 1) x7 x8 tv' qv' (L ++ [itH]) (jD t j) (aD u b c) ∧ Blk w' j (pjA (evItem n t ⟨#[106, 111, 105, 110]⟩ o' l' 6) t u L.length 0) 43 ∧ base ≤ j ∧ w'.ownsRow base 41 1 (.slice (some ⟨b, 0, none⟩) 1 c) 1 [.pointer (some ⟨j, 0, none⟩)] ∧ Fr (SS base qv w) w w' ∧ ∀ g, qv'.ownBlock = some g → (qv : Value).ownBlock = some g ∨ w.heap.size ≤ g := by
  have HOB := hid hob
  have HOL := hid hon
  have hjn := eD_at (.string t.data.toList)
  clear hob hon
  have hmt : t.size ≤ maxLen := by rw [ht1]; unfold maxLen; omega
  have hmu : u.size ≤ maxLen := by rw [hu1]; unfold maxLen; omega
  have HTL : Hid (1 = t.data.toList.length) := (one_len hx1).symm
  have HX1 := hid hx1
  have HHT := hid ht1
  have HHU := hid hu1
  have hR1 := hR.below ((Below.refl _ w).alloc (Nat.le_refl _) (.cells #[.int .u8 6, .int .u8 5, .slice na nl nc, .slice aa an ac, .slice (some ⟨tg, 0, none⟩) 1 tc, .slice (some ⟨og, 0, none⟩) on oc, .slice la ln lc] 59))
  have hB1 := Blk.new w #[.int .u8 6, .int .u8 5, .slice na nl nc, .slice aa an ac, .slice (some ⟨tg, 0, none⟩) 1 tc, .slice (some ⟨og, 0, none⟩) on oc, .slice la ln lc] 59
  have hT1 := hT.alloc (.cells #[.int .u8 6, .int .u8 5, .slice na nl nc, .slice aa an ac, .slice (some ⟨tg, 0, none⟩) 1 tc, .slice (some ⟨og, 0, none⟩) on oc, .slice la ln lc] 59)
  have hLn1 : Ln w (w.alloc (.cells #[.int .u8 6, .int .u8 5, .slice na nl nc, .slice aa an ac, .slice (some ⟨tg, 0, none⟩) 1 tc, .slice (some ⟨og, 0, none⟩) on oc, .slice la ln lc] 59)) base lo w.heap.size qv #[.int .u8 6, .int .u8 5, .slice na nl nc, .slice aa an ac, .slice (some ⟨tg, 0, none⟩) 1 tc, .slice (some ⟨og, 0, none⟩) on oc, .slice la ln lc] (.slice (some ⟨tg, 0, none⟩) 1 tc) (.slice (some ⟨og, 0, none⟩) on oc) (.slice la ln lc) t.data.toList oB lB :=
    ⟨hN.below ((Below.refl _ w).alloc (Nat.le_refl _) _), hB1, hT1, hO.alloc _, hL.alloc _, (Fr.refl _ w).alloc _⟩
  go_enter Ybaf.func10, Ybaf.ntmps10
  go_upto_region 1 with fail
  generalize (w.alloc (.cells #[.int .u8 6, .int .u8 5, .slice na nl nc, .slice aa an ac, .slice (some ⟨tg, 0, none⟩) 1 tc, .slice (some ⟨og, 0, none⟩) on oc, .slice la ln lc] 59)) = w1 at hR1 hB1 hT1 hLn1 ⊢
  have hcv := fun m => BySl.back (w := w1.drewN m) (lo := lo) (s := t) (hT1.below (bdrewN (Below.refl _ w1) m)) HTL.out
  have hlk := fun m => j_none (W := w1.drewN m) (b := mj) (n := nj) (D := eD) hR1.jo t hmt hjn
  obtain ⟨x0, x1, x2, x3, x4, x5, x6, y7, y8, x9, x10, fx⟩ := hR1.blk.cells11
  obtain ⟨b0, b1, b2, b3, b4, b5, b6, bf⟩ := hB1.cells7
  have HLn1 := hid hLn1
  clear hLn1
  go_quiet (fail)
  have HR2 : Hid (Rdj (w1.drewN nq) base r mj ma nj na0 x7 x8 tv qv L eD eD) := hR1.below (bdrewN (Below.refl _ w1) nq)
  have HLn2 := hid (HLn1.out.below (bdrewN (Below.refl _ w1) nq))
  clear hcv hlk x0 x1 x2 x3 x4 x5 x6 y7 y8 x9 x10 fx b0 b1 b2 b3 b4 b5 b6 bf hR1 hB1 hT1 HLn1 hR hN hT hO hL hx1 ht1 hu1
  generalize (w1.drewN nq) = w2 at HR2 HLn2 ⊢
  have HQ2 : Hid (∀ g, (qv : Value).ownBlock = some g → (qv : Value).ownBlock = some g ∨ w.heap.size ≤ g) := fun g hg => Or.inl hg
  obtain ⟨b0, b1, b2, b3, b4, b5, b6, bf⟩ := HLn2.out.bx.cells7
  go_wp2_with fail
  refine (ran_empty r ma na0 n eD aR _ _ _ _ _ _ _ _ _ _ _ w2 HR2.out.blk HR2.out.aw rfl).mono ?_
  rintro e w3 ⟨rfl, hb3⟩
  have HR3 := hid (HR2.out.below hb3)
  have HLn3 := hid (HLn2.out.below hb3)

  have HQ3 := HQ2
  clear hb3
  clear b0 b1 b2 b3 b4 b5 b6 bf HR2 HLn2 HQ2
  obtain ⟨b0, b1, b2, b3, b4, b5, b6, bf⟩ := HLn3.out.bx.cells7
  obtain ⟨xt, hxt⟩ := HR3.out.t
  have HXT := hid hxt
  clear hxt
  go_upto_region 35 with fail
  have hct1 := BySl.back (w := w3.drew) (lo := lo) (s := t) (HLn3.out.t.below (Below.refl _ w3).drew) HTL.out
  have hco1 := BySl.back (w := w3.drew) (lo := lo) (s := u) (HOB.out ▸ (HLn3.out.o.below (Below.refl _ w3).drew)) HOL.out
  have hct0 := BySl.back (w := w3) (lo := lo) (s := t) HLn3.out.t HTL.out
  have hco0 := BySl.back (w := w3) (lo := lo) (s := u) (HOB.out ▸ HLn3.out.o) HOL.out
  go_region_held3 (fun w' => w'.cell? ⟨w.heap.size, 0, none⟩ = some (.int .u8 6) ∧ w'.cell? ⟨w.heap.size, 1, none⟩ = some (.int .u8 5) ∧ w'.cell? ⟨w.heap.size, 2, none⟩ = some (.slice na nl nc) ∧ w'.cell? ⟨w.heap.size, 3, none⟩ = some (.slice aa an ac) ∧ w'.cell? ⟨w.heap.size, 4, none⟩ = some (.slice (some ⟨tg, 0, none⟩) 1 tc) ∧ w'.cell? ⟨w.heap.size, 5, none⟩ = some (.slice (some ⟨og, 0, none⟩) on oc) ∧ w'.cell? ⟨w.heap.size, 6, none⟩ = some (.slice la ln lc) ∧ (convert 33 9 (.slice (some ⟨tg, 0, none⟩) 1 tc)).run Ybaf.prog w' = .ok (.string t) w' ∧ (convert 33 9 (.slice (some ⟨og, 0, none⟩) on oc)).run Ybaf.prog w' = .ok (.string u) w')
    (go_keep) (first
    | (go_at_call 18
       refine (event_any r base lo tv qv xt n 6 5 6 ⟨#[106, 111, 105, 110]⟩ t oB lB na (some ⟨og, 0, none⟩) la nl nc tg tc ac on oc ln lc an aa 0 0 _ _ _ _ _ _ _ w3.drew (HR3.out.below (Below.refl _ w3).drew).blk (by exact World.ownsRow.drew HXT.out) (HLn3.out.below (Below.refl _ w3).drew).nm (by decide) (by decide) rfl HX1.out ho hl HR3.out.lo hb0 o' l' ho' hl' (HLn3.out.below (Below.refl _ w3).drew).t (HLn3.out.below (Below.refl _ w3).drew).o (HLn3.out.below (Below.refl _ w3).drew).l).mono ?_
       rintro e w4 ⟨tv4, xt4, rfl, hr4, ht4, f4⟩
       have HR4 := hid ((HR3.out.below (Below.refl _ w3).drew).event hr4 ht4 f4)
       have HLn4 := hid ((HLn3.out.below (Below.refl _ w3).drew).step ((HR3.out.below (Below.refl _ w3).drew).ssE f4) HQ3.out (HR3.out.below (Below.refl _ w3).drew).q30 hb0)
       have hct2 := BySl.back (w := w4) (lo := lo) (s := t) HLn4.out.t HTL.out
       have hco2 := BySl.back (w := w4) (lo := lo) (s := u) (HOB.out ▸ HLn4.out.o) HOL.out
       have hct3 := fun oo => BySl.back (w := w4.alloc oo) (lo := lo) (s := t) (HLn4.out.t.alloc oo) HTL.out
       have hco3 := fun oo => BySl.back (w := w4.alloc oo) (lo := lo) (s := u) (HOB.out ▸ (HLn4.out.o.alloc oo)) HOL.out
       obtain ⟨e0, e1, e2, e3, e4, e5, e6, ef⟩ := HLn4.out.bx.cells7
       obtain ⟨iv, hiv⟩ : ∃ z, evItem n t ⟨#[106, 111, 105, 110]⟩ o' l' 6 = z := ⟨_, rfl⟩
       have HIV := hid hiv
       rw [hiv]
       simp only [It.v]
       clear hr4 ht4 f4 hiv))
  have HP5 : Hid (Blk (w4.alloc (.cells (pjA iv t u 0 0) 43)) w4.heap.size (pjA iv t u 0 0) 43) := Blk.new _ _ _
  have HR5 := hid (HR4.out.below ((Below.refl _ w4).alloc (Nat.le_refl _) (.cells (pjA iv t u 0 0) 43)))
  have HLn5 := hid (HLn4.out.below ((Below.refl _ w4).alloc (Nat.le_refl _) (.cells (pjA iv t u 0 0) 43)))
  have HBJ : Hid (base ≤ w4.heap.size) := HR4.out.lo
  have HQ5 := HQ3
  generalize (w4.alloc (.cells (pjA iv t u 0 0) 43)) = w5 at HP5 HR5 HLn5 ⊢
  generalize w4.heap.size = j' at HP5 HBJ ⊢
  clear hct0 hct1 hct2 hct3 hco0 hco1 hco2 hco3 e0 e1 e2 e3 e4 e5 e6 ef b0 b1 b2 b3 b4 b5 b6 bf HXT HR4 HLn4 HR3 HLn3 HQ3
  have hwr : IntKind.i64.wrap ((0 : Int) + ((L.length : Nat) : Int)) = (L.length : Nat) := by rw [IntKind.wrap_i64]; omega
  go_wp2_with fail
  refine (push_any r base qv L itH 0 0 _ _ _ _ _ _ _ _ w5 HR5.out.blk HR5.out.q (by omega) HR5.out.lo).mono ?_
  rintro e w6 ⟨g6, cap6, rfl, hr6, hq6, f6, hg6⟩
  rw [hwr]
  have HR6 := hid (HR5.out.push hr6 hq6 f6)
  have HLn6 := hid (HLn5.out.step (HR5.out.ssP f6) HQ5.out HR5.out.q30 hb0)
  have HP6 := hid (HR5.out.pjP HP5.out (Or.inl rfl) f6)
  have HQ6 : Hid (∀ g, (Value.slice (some ⟨g6, 0, none⟩) (L ++ [itH]).length cap6).ownBlock = some g → (qv : Value).ownBlock = some g ∨ w.heap.size ≤ g) := fun g hg => by
    simp [Value.ownBlock] at hg
    subst hg
    have := HLn5.out.f.size
    rcases hg6 with h | h
    · exact HQ5.out _ h
    · exact Or.inr (by omega)
  clear hr6 hq6 f6 hg6 hwr HR5 HLn5 HP5 HQ5
  generalize hkl : ((L.length : Nat) : Int) = sl
  have HKL := hid hkl
  clear hkl
  obtain ⟨z0, z1, z2, z3, z4, z5, z6, z7, z8, z9, fz⟩ := HP6.out.cells10
  go_upto_region 37 with fail
  have f7 : Fr (fun g => g = j') w6 (w6.setCell ⟨j', 8, none⟩ (.int .i64 sl)) := (Fr.refl (fun g => g = j') w6).setCell (fun _ => rfl) _
  have HR7 := hid (HR6.out.pj HP6.out f7)
  have HLn7 := hid (HLn6.out.step (ss43 HBJ.out HP6.out f7) HQ6.out HR6.out.q30 hb0)
  have HP7 : Hid (Blk (w6.setCell ⟨j', 8, none⟩ (.int .i64 sl)) j' (pjA iv t u sl 0) 43) := HP6.out.set 8 (.int .i64 sl)
  have HQ7 := HQ6
  generalize (w6.setCell ⟨j', 8, none⟩ (.int .i64 sl)) = w7 at HR7 HLn7 HP7 ⊢
  clear f7 z0 z1 z2 z3 z4 z5 z6 z7 z8 z9 fz HR6 HLn6 HP6 HQ6
  obtain ⟨x0, x1, x2, x3, x4, x5, x6, y7, y8, x9, x10, fx⟩ := HR7.out.blk.cells11
  obtain ⟨z0, z1, z2, z3, z4, z5, z6, z7, z8, z9, fz⟩ := HP7.out.cells10
  obtain ⟨w8, hup, hm, htu⟩ := j_put (W := w7.drew) (b := mj) (n := nj) (D := eD) HR7.out.jo t hmt hnj j'
  rw [jD_put] at hm
  have HM := hid hm
  have HTU := hid htu
  clear hm htu
  go_region
  have HR8 := hid ((HR7.out.below (Below.refl _ w7).drew).turnJ HTU.out HM.out)
  have HLn8 := hid ((HLn7.out.below (Below.refl _ w7).drew).step ((HR7.out.below (Below.refl _ w7).drew).ssJ HTU.out) HQ7.out (HR7.out.below (Below.refl _ w7).drew).q30 hb0)
  have HP8 := hid (HP7.out.drew.turn HR7.out.jo HTU.out)
  have HQ8 := HQ7
  clear hup HM HTU x0 x1 x2 x3 x4 x5 x6 y7 y8 x9 x10 fx z0 z1 z2 z3 z4 z5 z6 z7 z8 z9 fz HR7 HLn7 HP7 HQ7
  go_upto_region 38 with fail
  obtain ⟨x0, x1, x2, x3, x4, x5, x6, y7, y8, x9, x10, fx⟩ := HR8.out.blk.cells11
  obtain ⟨z0, z1, z2, z3, z4, z5, z6, z7, z8, z9, fz⟩ := HP8.out.cells10
  have hl0 := a_none (W := w8.drew) (b := ma) (n := na0) (D := eD) HR8.out.aw u hmu (eD_at _)
  have hl1 := fun oo => a_none (W := (w8.alloc oo).drew) (b := ma) (n := na0) (D := eD) (HR8.out.below ((Below.refl _ w8).alloc (Nat.le_refl _) oo).drew).aw u hmu (eD_at _)
  go_region_held3 (fun w' => w'.cell? ⟨r, 10, none⟩ = some (.map (some ma)) ∧ w'.cell? ⟨j', 7, none⟩ = some (.string u))
    (go_keep) (first
    | (refine step_app1 rfl (.tmp 232) (.tmp 234) 64 rfl 41 _ 1 8 Ybaf.underlying64 info41 rfl (by decide) base w8.heap.size (.slice none 0 0) 0 [] #[.pointer (some ⟨j', 0, none⟩)] (by go_simp) (by go_simp) (by exact ⟨by simp, Or.inl ⟨rfl, rfl⟩⟩) (by exact Blk.new' (by simp)) rfl (by simp [Value.oneCell']) (by decide) (by decide) (by have := HR8.out.lo; simp; omega) ?_
       intro g9 cap9 w9 own9 fr9 at9 lt9
       have HA9 : Hid (w9.ownsRow base 41 1 (.slice (some ⟨g9, 0, none⟩) 1 cap9) 1 [.pointer (some ⟨j', 0, none⟩)]) := own9
       have hb9 : Below w8.heap.size w8 w9 := Fr.to_grown (Fr.trans (((Fr.refl (fun _ => False) w8).alloc _).drew) fr9 (fun k _ h => by simp [Value.ownBlock] at h))
       have HR9 := hid (HR8.out.below hb9)
       have HLn9 := hid (HLn8.out.below hb9)
       have HP9 := hid (HP8.out.below hb9 HP8.out.lt)
       obtain ⟨w10, hup, hm, htu⟩ := a_put (W := w9) (b := ma) (n := na0) (D := eD) HR9.out.aw u hmu hna g9 cap9
       rw [aD_put] at hm
       have HR10 := hid (HR9.out.turnA htu hm)
       have HLn10 := hid (HLn9.out.step (HR9.out.ssA htu) HQ8.out HR9.out.q30 hb0)
       have HP10 := hid (HP9.out.turn HR9.out.aw htu)
       have HA10 := hid (row_turn HA9.out HR9.out.aw htu)
       obtain ⟨_, _, _, _, _, _, _, _, _, _, xa10, _⟩ := HR9.out.blk.cells11
       obtain ⟨_, _, _, _, _, _, _, za7, _⟩ := HP9.out.cells10
       obtain ⟨_, _, _, _, _, _, _, _, _, _, xb10, _⟩ := HR10.out.blk.cells11
       obtain ⟨_, _, _, _, _, _, _, zb7, _⟩ := HP10.out.cells10
       clear own9 fr9 at9 hm htu hb9))
  all_goals go_wp2
  all_goals go_end0
  all_goals exact ⟨rfl, _, _, j', g9, cap9, HR10.out, by have := HP10.out; rw [← HIV.out, ← HKL.out] at this; exact this, HBJ.out, HA10.out, HLn10.out.f, HQ8.out⟩
end Go.Proofs.YbulkawpsFmt
