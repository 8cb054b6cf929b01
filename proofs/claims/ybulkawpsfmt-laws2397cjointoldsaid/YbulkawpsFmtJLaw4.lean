import Derived.Test.YbulkawpsFmtJKit
import Derived.Deep.RegionHeld3
/- The law C-Join (func 6), one case of its switch; written by a program. -/
namespace Go.Proofs.YbulkawpsFmt
open Go.RowKit
open Go.Extern.Stop Go.Stop Go.Extern
set_option linter.unusedVariables false
set_option maxRecDepth 100000
set_option maxHeartbeats 4000000 in
theorem join4 (F : Interp) (c ts us : Nat) (w : World) (hF : F.answers w.tape) (hN : Names w) (hw0 : 0 < w.heap.size) (hc : c < 256) (hts : ts < 256) (hus : us < 256) (hk : c % 5 = 4) :
    Calls Ybaf.prog 6 #[.int .u8 c, .int .u8 ts, .int .u8 us] w fun e w' => e = .returned (.bool true) ∧ Below w.heap.size w w' := by
  have HN := hid hN
  have HFA := hid hF
  clear hN hF
  obtain ⟨ti, hti, hti3⟩ : ∃ ti : Nat, ts % 3 = ti ∧ ti < 3 := ⟨_, rfl, Nat.mod_lt _ (by decide)⟩
  obtain ⟨ui, hui, hui3⟩ : ∃ ui : Nat, (ti + 1 + us % 2) % 3 = ui ∧ ui < 3 := ⟨_, rfl, Nat.mod_lt _ (by decide)⟩
  obtain ⟨vi, hvi⟩ : ∃ vi : Nat, 3 - ti - ui = vi := ⟨_, rfl⟩
  have hvi3 : vi < 3 := by omega
  have htu : ti ≠ ui := by omega
  have huv : ui ≠ vi := by omega
  obtain ⟨t, ht⟩ := th_get ti hti3
  obtain ⟨u, hu⟩ := th_get ui hui3
  obtain ⟨v, hv⟩ := th_get vi hvi3
  have HT := hid (th_size ht)
  have HU := hid (th_size hu)
  have HV := hid (th_size hv)
  have HTU : Hid (t.data.toList ≠ u.data.toList) := th_ne ht hu htu
  have HUV : Hid (u.data.toList ≠ v.data.toList) := th_ne hu hv huv
  have HUV2 : Hid ((u.toList == v.toList) = false) := th_ne2 hu hv huv
  go_enter Ybaf.func6, Ybaf.ntmps6
  go_upto_region 5 with fail
  have eti : ((ts : Int) % 3) = (ti : Int) := by omega
  have eui : (((ti : Int) + 1 + (us : Int) % 2) % 3) = (ui : Int) := by omega
  have evi : (3 - (ti : Int) - (ui : Int)) = (vi : Int) := by omega
  simp only [eti, eui, evi]
  have hB1 := Blk.new w #[.string ⟨#[49]⟩, .string ⟨#[50]⟩, .string ⟨#[51]⟩] 48
  have HB1 : Hid (Below w.heap.size w (w.alloc (.cells #[.string ⟨#[49]⟩, .string ⟨#[50]⟩, .string ⟨#[51]⟩] 48))) := (Below.refl _ w).alloc (Nat.le_refl _) _
  generalize (w.alloc (.cells #[.string ⟨#[49]⟩, .string ⟨#[50]⟩, .string ⟨#[51]⟩] 48)) = w1 at hB1 HB1 ⊢
  have tc1 := (hB1.cell ti).trans (th_arr ht)
  have tc2 := (hB1.cell ui).trans (th_arr hu)
  have tc3 := (hB1.cell vi).trans (th_arr hv)
  go_quiet (fail)
  have HB2 : Hid (Below w.heap.size w (w1.drewN nq)) := bdrewN HB1.out nq
  clear tc1 tc2 tc3 hB1 HB1 eti eui evi ht hu hv hti hui hvi htu huv
  generalize (w1.drewN nq) = w2 at HB2 ⊢
  go_wp2_with fail
  refine (fresh_any w2).mono ?_
  rintro e w3 ⟨rfl, hr3, hm3, hb3⟩
  have HR3 : Hid (Rdj w3 w.heap.size (w2.heap.size + 4) (w2.heap.size + 2) (w2.heap.size + 3) 0 0 (.map (some w2.heap.size)) (.map (some (w2.heap.size + 1))) (.slice none 0 0) (.slice none 0 0) [] eD eD) := by
    have h1 := HB2.out.size
    have h2 := hb3.size
    have hq0 : ∀ (W : World) (b : Nat) (e : TypeId) (k : Nat), W.ownsRow b e k (.slice none 0 0) 0 [] := fun W b e k => ⟨by simp, Or.inl ⟨rfl, rfl⟩⟩
    exact ⟨hr3, hq0 _ _ _ _, ⟨[], hq0 _ _ _ _⟩, (hm3 9 jR).2.2.1, (hm3 9 aR).2.2.2, by omega, by omega, by omega, by omega, by omega⟩
  have HF3 : Hid (Below w.heap.size w w3) := HB2.out.trans (hb3.mono HB2.out.size)
  clear hr3 hm3 hb3 HB2
  generalize w2.heap.size + 4 = r at HR3 ⊢
  generalize w2.heap.size + 2 = mj at HR3 ⊢
  generalize w2.heap.size + 3 = ma at HR3 ⊢
  generalize (Value.map (some w2.heap.size)) = x7 at HR3
  generalize (Value.map (some (w2.heap.size + 1))) = x8 at HR3
  obtain ⟨base, hbase⟩ : ∃ x, x = w.heap.size := ⟨_, rfl⟩
  rw [← hbase] at HR3
  have HBS := hid hbase
  have hb0 : 0 < base := by omega
  clear hbase w1 w2
  obtain ⟨Tu, hTu⟩ : ∃ z, (⟨#[84]⟩ ++ u : ByteArray) = z := ⟨_, rfl⟩
  have HTU2 : Hid (Tu.size = 2) := by rw [Hid, ← hTu, ByteArray.size_append, HU.out]; rfl
  have HTUL : Hid (Tu.data.toList = tOf 5 ++ u.data.toList) := by rw [Hid, ← hTu]; simp [tOf]
  have htz : 1 + u.size ≤ 9223372036854775807 := by rw [HU.out]; decide
  go_wp2_with fail
  refine (line_all 5 6 t u ⟨#[]⟩ w3 HT.out (by rw [HU.out]; decide) (by decide)).mono ?_
  rintro e w4 ⟨na, nl, nc, ag, an, ac, tg, tc', oa, on, oc, la, ln, lc, rfl, han, hA, hT, hO, hL, hb4⟩
  obtain ⟨og, oc, hoq⟩ := hO.some' (by simp [opOf]; exact Nat.lt_of_lt_of_eq (by decide) HU.out.symm)
  rw [show (opOf 5 u.data.toList).length = 1 from by simp [opOf]; exact HU.out] at hoq
  cases hoq
  have HR4 := hid (HR3.out.below hb4)
  have HF4 : Hid (Below w.heap.size w w4) := HF3.out.trans (hb4.mono HF3.out.size)
  have HTb := hid hT
  have HOb := hid hO
  have HLb := hid hL
  clear han hA hT hO hL hb4 HR3 HF3
  go_wp2_with fail
  refine (place5n base r mj ma 0 0 w3.heap.size x7 x8 (.slice none 0 0) (.slice none 0 0) [] t u 1 na la nl nc tg tc' ac ln lc an og 1 oc (some ⟨ag, 0, none⟩) (opOf 5 u.data.toList) (locOf 5 (⟨#[]⟩ : ByteArray).data.toList) w4 HR4.out (HN.out.below HF4.out) HT.out HU.out (by decide) HT.out (by simp [opOf]; exact Nat.le_of_eq HU.out) (by simp [locOf]) hb0 Tu ⟨#[]⟩ HTUL.out (by simp [locOf]) HTb.out HOb.out HLb.out (by decide) (by decide) (by simp [opOf]) (one_len HU.out).symm).mono ?_
  rintro e w5 ⟨rfl, tv5, qv5, j, b, cc, hR5, hp5, hbj, ha5, f5, hq5⟩
  obtain ⟨q, cap, hqv, _, _⟩ := hR5.q.form (by decide)
  subst hqv
  obtain ⟨it1, hit⟩ : ∃ z, evItem 1 t ⟨#[106, 111, 105, 110]⟩ Tu ⟨#[]⟩ 6 = z := ⟨_, rfl⟩
  rw [hit] at hp5
  have HIT := hid hit
  have HR5 : Hid (Rdj w5 base r mj ma 1 1 x7 x8 tv5 (.slice (some ⟨q, 0, none⟩) 1 cap) [itH] (jD t j) (aD u b cc)) := hR5
  have HP5 : Hid (Blk w5 j (pjA it1 t u 0 0) 43) := hp5
  have HA5 := hid ha5
  have HBJ := hid hbj
  have HF5 : Hid (Below w.heap.size w w5) := HF4.out.trans (f5.below HF4.out.size (fun k h => by have := h.1; have := HBS.out; omega))
  have HQL : Hid (q < w5.heap.size) := row_lt HR5.out.q rfl
  have hmu : u.size ≤ maxLen := by rw [HU.out]; unfold maxLen; omega
  have hmv : v.size ≤ maxLen := by rw [HV.out]; unfold maxLen; omega
  clear hR5 hp5 ha5 f5 hq5 HR4 HF4 HTb HOb HLb hbj hit
  obtain ⟨x0, x1, x2, x3, x4, x5, x6, y7, y8, x9, x10, fx⟩ := HR5.out.blk.cells11
  have HQ5 : Hid (ItRow w5 base q cap [itH]) := HR5.out.q
  have hpc := HQ5.out.cells (k := 0) (i := itH) rfl
  have p0 : w5.cell? ⟨q, 0, none⟩ = some (.string ⟨#[]⟩) := hpc.1
  have p1 : w5.cell? ⟨q, 1, none⟩ = some (.int .i64 0) := hpc.2.1
  have p2 : w5.cell? ⟨q, 2, none⟩ = some (.int .u32 0) := hpc.2.2.1
  have p3 : w5.cell? ⟨q, 3, none⟩ = some (.int .u32 0) := hpc.2.2.2.1
  have p4 : w5.cell? ⟨q, 4, none⟩ = some (.int .u8 0) := hpc.2.2.2.2.1
  have p5 : w5.cell? ⟨q, 5, none⟩ = some (.int .u8 2) := hpc.2.2.2.2.2
  have hne := neq30 w5 ⟨#[]⟩ 0 0 0 0 2
  have l37 := fun ty => HR5.out.jo.len Ybaf.underlying37 ty
  rw [show Maps.size (jD t j) = 1 from rfl] at l37
  have hlk := a_look (W := w5) (b := ma) (n := 1) (D := aD u b cc) HR5.out.aw u hmu (aD_at u b cc)
  clear hpc
  go_wp2_with fail
  refine (want_any 1 t Tu ⟨#[]⟩ ⟨#[106, 111, 105, 110]⟩ 6 w5 HT.out (by rw [HTU2.out]; decide) (by decide) (by decide) (by decide) rfl).mono ?_
  rintro e w6 ⟨rfl, hb6⟩
  rw [HIT.out]
  simp only [It.v]
  have HR6 := hid (HR5.out.below hb6)
  have HP6 := hid (HP5.out.below hb6 HP5.out.lt)
  have HA6 := hid (row_fr HA5.out (Fr.of_grown hb6) (fun _ _ h => h))
  have HF6 : Hid (Below w.heap.size w w6) := HF5.out.trans (hb6.mono HF5.out.size)
  have HQL6 : Hid (q < w6.heap.size) := Nat.lt_of_lt_of_le HQL.out hb6.size
  clear x0 x1 x2 x3 x4 x5 x6 y7 y8 x9 x10 fx p0 p1 p2 p3 p4 p5 hne l37 hlk hb6 HR5 HP5 HA5 HF5 HQ5 HQL
  go_upto_region 19 with fail
  have e5 : ((c : Int) % 5) = 4 := by omega
  simp only [e5]
  have HJ7 : Hid (Blk (w6.alloc (.cells #[.string it1.text, .int .i64 it1.line, .int .u32 it1.at_, .int .u32 it1.en, .int .u8 it1.op, .int .u8 it1.st] 30)) w6.heap.size #[.string it1.text, .int .i64 it1.line, .int .u32 it1.at_, .int .u32 it1.en, .int .u8 it1.op, .int .u8 it1.st] 30) := Blk.new _ _ _
  have HR7 := hid (HR6.out.below ((Below.refl _ w6).alloc (Nat.le_refl _) (.cells #[.string it1.text, .int .i64 it1.line, .int .u32 it1.at_, .int .u32 it1.en, .int .u8 it1.op, .int .u8 it1.st] 30)))
  have HP7 := hid (HP6.out.alloc (.cells #[.string it1.text, .int .i64 it1.line, .int .u32 it1.at_, .int .u32 it1.en, .int .u8 it1.op, .int .u8 it1.st] 30))
  have HA7 := hid (HA6.out.alloc (.cells #[.string it1.text, .int .i64 it1.line, .int .u32 it1.at_, .int .u32 it1.en, .int .u8 it1.op, .int .u8 it1.st] 30))
  have HF7 : Hid (Below w.heap.size w (w6.alloc (.cells #[.string it1.text, .int .i64 it1.line, .int .u32 it1.at_, .int .u32 it1.en, .int .u8 it1.op, .int .u8 it1.st] 30))) := HF6.out.alloc HF6.out.size _
  have HQG : Hid ((Value.slice (some ⟨q, 0, none⟩) 1 cap).ownBlock ≠ some w6.heap.size) := by have := HQL6.out; simp [Value.ownBlock, Hid]; omega
  generalize (w6.alloc (.cells #[.string it1.text, .int .i64 it1.line, .int .u32 it1.at_, .int .u32 it1.en, .int .u8 it1.op, .int .u8 it1.st] 30)) = w7 at HJ7 HR7 HP7 HA7 HF7 ⊢
  generalize w6.heap.size = g1 at HJ7 HQG ⊢
  clear HR6 HP6 HA6 HF6 HQL6 e5 hc hk
  obtain ⟨Tv, hTv⟩ : ∃ z, (⟨#[84]⟩ ++ v : ByteArray) = z := ⟨_, rfl⟩
  have HTVL : Hid (Tv.data.toList = tOf 5 ++ v.data.toList) := by rw [Hid, ← hTv]; simp [tOf]
  have HTV := hid hTv
  clear hTv
  go_wp2_with fail
  refine (line_all 5 6 t v ⟨#[]⟩ w7 HT.out (by rw [HV.out]; decide) (by decide)).mono ?_
  rintro e w8 ⟨na8, nl8, nc8, ag8, an8, ac8, tg8, tc8, oa8, on8, oc8, la8, ln8, lc8, rfl, han, hA, hT, hO, hL, hb8⟩
  obtain ⟨og8, _, hoq⟩ := hO.some' (by simp [opOf]; exact Nat.lt_of_lt_of_eq (by decide) HV.out.symm)
  rw [show (opOf 5 v.data.toList).length = 1 from by simp [opOf]; exact HV.out] at hoq
  cases hoq
  have HR8 := hid (HR7.out.below hb8)
  have HP8 := hid (HP7.out.below hb8 HP7.out.lt)
  have HA8 := hid (row_fr HA7.out (Fr.of_grown hb8) (fun _ _ h => h))
  have HJ8 := hid (HJ7.out.below hb8 HJ7.out.lt)
  have HF8 : Hid (Below w.heap.size w w8) := HF7.out.trans (hb8.mono HF7.out.size)
  have HTb := hid hT
  have HOb := hid hO
  have HLb := hid hL
  clear han hA hT hO hL hb8 HR7 HF7 HP7 HA7 HJ7
  go_wp2_with fail
  refine (place5d base r mj ma 1 1 w7.heap.size x7 x8 tv5 q cap itH t u j it1 0 b cc 2 na8 la8 nl8 nc8 tg8 tc8 ac8 ln8 lc8 an8 og8 1 oc8 (some ⟨ag8, 0, none⟩) (opOf 5 v.data.toList) (locOf 5 (⟨#[]⟩ : ByteArray).data.toList) w8 HR8.out (HN.out.below HF8.out) HP8.out HBJ.out HA8.out HT.out HU.out HT.out (by simp [opOf]; exact Nat.le_of_eq HV.out) (by simp [locOf]) hb0 Tv ⟨#[]⟩ HTVL.out (by simp [locOf]) HTb.out HOb.out HLb.out v HV.out HUV2.out (fun e => HUV.out (by rw [e])) (by decide) (by decide) (by simp [opOf]) (one_len HV.out).symm).mono ?_
  rintro e w9 ⟨rfl, tv9, qv9, j2, b2, c2, hR9, hp9, hbj2, ha9, f9, hq9⟩
  clear hp9 ha9 hbj2
  have HR9 := hid hR9
  have HF9 : Hid (Below w.heap.size w w9) := HF8.out.trans (f9.below HF8.out.size (fun k h => by have := h.1; have := HBS.out; omega))
  have HJ9 := hid (HJ8.out.ss f9 (by decide) (by decide) (by decide) (by decide) HQG.out)

  clear hR9 f9 hq9 HR8 HF8 HTb HOb HLb HP8 HA8 HJ8
  obtain ⟨e0, e1, e2, e3, e4, e5, ef⟩ := HJ9.out.cells6
  obtain ⟨x0, x1, x2, x3, x4, x5, x6, y7, y8, x9, x10, fx⟩ := HR9.out.blk.cells11
  go_upto_region 17 with fail
  have HW10 : Hid ((w9.alloc (.cells #[.string it1.text, .int .i64 it1.line, .int .u32 it1.at_, .int .u32 it1.en, .int .u8 it1.op, .int .u8 it1.st, .string ⟨#[]⟩, .int .i64 0, .int .u32 0, .int .u32 0, .int .u8 0, .int .u8 2] 30)).ownsRow w9.heap.size 30 6 (.slice (some ⟨w9.heap.size, 0, none⟩) [it1, itH].length [it1, itH].length) [it1, itH].length (itF [it1, itH])) := row_of_new w9 [it1, itH] #[.string it1.text, .int .i64 it1.line, .int .u32 it1.at_, .int .u32 it1.en, .int .u8 it1.op, .int .u8 it1.st, .string ⟨#[]⟩, .int .i64 0, .int .u32 0, .int .u32 0, .int .u8 0, .int .u8 2] rfl (by simp)
  have HR10 := hid (HR9.out.below ((Below.refl _ w9).alloc (Nat.le_refl _) (.cells #[.string it1.text, .int .i64 it1.line, .int .u32 it1.at_, .int .u32 it1.en, .int .u8 it1.op, .int .u8 it1.st, .string ⟨#[]⟩, .int .i64 0, .int .u32 0, .int .u32 0, .int .u8 0, .int .u8 2] 30)))
  have HF10 : Hid (Below w.heap.size w (w9.alloc (.cells #[.string it1.text, .int .i64 it1.line, .int .u32 it1.at_, .int .u32 it1.en, .int .u8 it1.op, .int .u8 it1.st, .string ⟨#[]⟩, .int .i64 0, .int .u32 0, .int .u32 0, .int .u8 0, .int .u8 2] 30))) := HF9.out.alloc HF9.out.size _
  generalize (w9.alloc (.cells #[.string it1.text, .int .i64 it1.line, .int .u32 it1.at_, .int .u32 it1.en, .int .u8 it1.op, .int .u8 it1.st, .string ⟨#[]⟩, .int .i64 0, .int .u32 0, .int .u32 0, .int .u8 0, .int .u8 2] 30)) = w10 at HW10 HR10 HF10 ⊢
  generalize w9.heap.size = gw at HW10 ⊢
  clear e0 e1 e2 e3 e4 e5 ef x0 x1 x2 x3 x4 x5 x6 y7 y8 x9 x10 fx HR9 HF9 HJ9
  obtain ⟨x0, x1, x2, x3, x4, x5, x6, y7, y8, x9, x10, fx⟩ := HR10.out.blk.cells11
  have hlk := a_look (W := w10) (b := ma) (n := 2) (D := aD v b2 c2) HR10.out.aw v hmv (aD_at v b2 c2)
  go_upto_region 36 with fail
  clear x0 x1 x2 x3 x4 x5 x6 y7 y8 x9 x10 fx hlk
  go_wp2_with fail
  refine (same_any r base gw [it1, itH] _ _ _ _ _ _ _ _ _ _ w10 HR10.out.blk HR10.out.q HW10.out (by simp)).mono ?_
  rintro e w11 ⟨rfl, hb11⟩
  have HR11 := hid (HR10.out.below hb11)
  have HF11 : Hid (Below w.heap.size w w11) := HF10.out.trans (hb11.mono HF10.out.size)
  clear hb11 HR10 HF10
  have l37 := fun ty => HR11.out.jo.len Ybaf.underlying37 ty
  have l38 := fun ty => HR11.out.aw.len Ybaf.underlying38 ty
  rw [show Maps.size (jD t j2) = 1 from rfl] at l37
  rw [show Maps.size (aD v b2 c2) = 1 from rfl] at l38
  obtain ⟨x0, x1, x2, x3, x4, x5, x6, y7, y8, x9, x10, fx⟩ := HR11.out.blk.cells11
  go_wp2_with fail
  go_ret
  exact ⟨rfl, HF11.out⟩
end Go.Proofs.YbulkawpsFmt
