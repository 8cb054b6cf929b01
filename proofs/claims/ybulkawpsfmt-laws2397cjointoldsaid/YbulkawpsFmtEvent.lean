import Derived.Test.YbulkawpsFmtBytes
/- 'Reader.event' (func 18). -/
namespace Go.Proofs.YbulkawpsFmt
open Go.RowKit
set_option linter.unusedVariables false
set_option maxRecDepth 100000
theorem BySl.s5 {w : World} {lo g base : Nat} {v : Value} {l : List UInt8} (h : BySl w lo v l) (hv : v.ownBlock = some g) : ¬ S5 base w g := fun ⟨_, c, hb⟩ => h.own hv hb
theorem Blk.s5 {w : World} {g base : Nat} {c : Array Value} {e : TypeId} (h : Blk w g c e) (he : e ≠ 5) : ¬ S5 base w g := fun ⟨_, c', hb⟩ => h.ne hb he rfl
/-- an event under way: its text so far -/
structure Ev (w wx : World) (base : Nat) (cs : Array Value) (v : Value) (l : List UInt8) : Prop where
  row : BRow wx base v l
  fr : Fr (S5 base w) w wx
  bx : Blk wx w.heap.size cs 59
  rz : Blk wx (w.heap.size + 1) #[.string ⟨#[]⟩, .int .i64 0, .int .u32 0, .int .u32 0, .int .u8 0, .int .u8 0] 30
theorem Ev.app {w wx w' : World} {base : Nat} {cs : Array Value} {v v' : Value} {l l' : List UInt8} (h : Ev w wx base cs v l) (hr : BRow w' base v' l') (f : Fr (fun j => v.ownBlock = some j) wx w') : Ev w w' base cs v' l' :=
  ⟨hr, h.fr.s5 h.row f, h.bx.fr f (row_ne h.row h.bx (by decide)), h.rz.fr f (row_ne h.row h.rz (by decide))⟩
theorem Ev.quiet {w wx w' : World} {base : Nat} {cs : Array Value} {v : Value} {l : List UInt8} (h : Ev w wx base cs v l) (hb : Below wx.heap.size wx w') : Ev w w' base cs v l :=
  ⟨row_fr h.row (Fr.of_grown hb) (fun _ _ h => h), h.fr.trans (Fr.of_grown hb) (fun _ _ h => h.elim), h.bx.below hb h.bx.lt, h.rz.below hb h.rz.lt⟩
theorem Ev.alloc {w wx : World} {base : Nat} {cs : Array Value} {v : Value} {l : List UInt8} (h : Ev w wx base cs v l) (o : Obj) : Ev w (wx.alloc o) base cs v l := h.quiet ((Below.refl _ wx).alloc (Nat.le_refl _) o)
theorem row_head {w : World} {base e size : Nat} {g n cap : Nat} {xs : List Value} (h : w.ownsRow base e size (.slice (some ⟨g, 0, none⟩) n cap) n xs) : w.ownsRow base e size (.slice (some ⟨g, 0, none⟩) 0 cap) 0 [] := by
  obtain ⟨cap', cur, hv, hb, hh, h1, h2, h3, h4⟩ := row_blk h (g := g) rfl
  cases hv
  exact ⟨by simp, Or.inr ⟨g, cap, cur, rfl, hb, hh, Nat.zero_le _, h2, h3, by simp⟩⟩
theorem Names.ev {w wx : World} {base : Nat} {cs : Array Value} {v : Value} {l : List UInt8} (h : Names w) (he : Ev w wx base cs v l) (hb : 0 < base) : Names wx := fun i s hi => he.fr.cell_some (h i s hi) (fun hs => by have := hs.1; simp at this; omega)
/-- the sign ahead of a thread's number in an operand -/
def tOf (sh : Int) : List UInt8 := if sh = 4 ∨ sh = 5 then [84] else []
theorem BRow.cell {w : World} {base g n cap : Nat} {l : List UInt8} (h : BRow w base (.slice (some ⟨g, 0, none⟩) n cap) l) (hn : n = l.length) (j : Nat) (hj : j < l.length) : w.cell? ⟨g, j, none⟩ = some (.int .u8 (l[j].toNat : Int)) := by
  subst hn
  exact row_cell h (by simp [bv, List.getElem?_eq_getElem hj])
theorem conv_back {w : World} {base g n cap : Nat} {l : List UInt8} (h : BRow w base (.slice (some ⟨g, 0, none⟩) n cap) l) (hn : n = l.length) : (convert 33 9 (.slice (some ⟨g, 0, none⟩) n cap)).run Ybaf.prog w = .ok (.string ⟨l.toArray⟩) w := by
  have hc := h.cell hn
  subst hn
  exact run_convert_bytes_back w 33 9 5 ⟨g, 0, none⟩ cap l Ybaf.underlying33 Ybaf.underlying5 Ybaf.underlying9 (fun j hj => by rw [Addr.add_lit, Nat.zero_add]; exact hc j hj)
set_option maxHeartbeats 4000000 in
theorem event_any (r base lo : Nat) (tv qv : Value) (xt : List UInt8) (n opf sh : Int) (k : Nat) (nm t : ByteArray) (oB lB : List UInt8) (na oa la : Option Addr) (nl nc tg tc ac on oc ln lc an : Nat) (aa : Option Addr) (hd B : Int) (t0 t1 t6 t7 t8 t9 t10 : Value) (w : World)
    (hr : Blk w r #[t0, t1, tv, qv, .int .i64 hd, .int .i64 B, t6, t7, t8, t9, t10] 40) (htv : BRow w base tv xt) (hN : Names w) (h1 : 1 ≤ k) (h2 : k ≤ 8) (hs : nmL[k]? = some nm) (ht : t.size = 1) (ho : oB.length ≤ 1) (hl : lB.length ≤ 2) (hb : base ≤ w.heap.size) (hb0 : 0 < base)
    (o' l' : ByteArray) (ho' : o'.data.toList = tOf sh ++ oB) (hl' : l'.data.toList = lB)
    (hT : BySl w lo (.slice (some ⟨tg, 0, none⟩) 1 tc) t.data.toList) (hO : BySl w lo (.slice oa on oc) oB) (hL : BySl w lo (.slice la ln lc) lB) :
    Calls Ybaf.prog 18 #[.pointer (some ⟨r, 0, none⟩), .int .i64 n, .agg #[.int .u8 opf, .int .u8 sh, .slice na nl nc, .slice aa an ac, .slice (some ⟨tg, 0, none⟩) 1 tc, .slice oa on oc, .slice la ln lc], .int .u8 k] w fun e w' =>
      ∃ tv' xt', e = .returned (evItem n t nm o' l' k).v ∧ Blk w' r #[t0, t1, tv', qv, .int .i64 hd, .int .i64 B, t6, t7, t8, t9, t10] 40 ∧ BRow w' base tv' xt' ∧ Fr (fun j => j = r ∨ S5 base w j) w w' := by
  have HO' := hid ho'
  have HL' := hid hl'
  clear ho' hl'
  have HR := hid hr
  have HTV := hid htv
  have HNm := hid hN
  have HT := hid hT
  have HO := hid hO
  have HL := hid hL
  clear hr htv hN hT hO hL
  have hnm := nm_size k nm hs
  obtain ⟨x0, x1, x2, x3, x4, x5, x6, x7, x8, x9, x10, fx⟩ := HR.out.cells11
  have lr := HR.out.lt
  go_enter Ybaf.func18, Ybaf.ntmps18
  go_upto_region 1 with fail
  go_cut [9] (fun v9 wx => ∃ g cap, v9 = .slice (some ⟨g, 0, none⟩) 1 cap ∧ Ev w wx base #[.int .u8 opf, .int .u8 sh, .slice na nl nc, .slice aa an ac, .slice (some ⟨tg, 0, none⟩) 1 tc, .slice oa on oc, .slice la ln lc] v9 [84])
  case first =>
    have H0 : Hid (∀ v0, BRow w base v0 [] → Ev w ((w.alloc (.cells #[.int .u8 opf, .int .u8 sh, .slice na nl nc, .slice aa an ac, .slice (some ⟨tg, 0, none⟩) 1 tc, .slice oa on oc, .slice la ln lc] 59)).alloc (.cells #[.string ⟨#[]⟩, .int .i64 0, .int .u32 0, .int .u32 0, .int .u8 0, .int .u8 0] 30)) base #[.int .u8 opf, .int .u8 sh, .slice na nl nc, .slice aa an ac, .slice (some ⟨tg, 0, none⟩) 1 tc, .slice oa on oc, .slice la ln lc] v0 []) :=
      fun v0 h0 => ⟨(World.ownsRow.alloc h0 _).alloc _, (((Fr.refl _ w).alloc _).alloc _), (Blk.new w _ _).alloc _, Blk.new' (by simp)⟩
    rcases HTV.out.2 with ⟨rfl, _⟩ | ⟨g, cap, cur, rfl, _⟩
    · go_wp2_with (first
        | (at_builtin
           refine wpList_appL rfl (.tmp 16) (.tmp 17) rfl base (w.heap.size + 1 + 1) (.slice none 0 0) [] [84] rfl rfl (by exact ((H0.out _ ⟨rfl, Or.inl ⟨rfl, rfl⟩⟩).alloc _).row) (by decide) (by exact Blk.new' (by simp)) (by decide) (by simp; omega) ?_
           intro g9 cap9 n9 w9 hn9 r1 r2
           obtain rfl : n9 = 1 := hn9
           have H9 := hid (((H0.out _ ⟨rfl, Or.inl ⟨rfl, rfl⟩⟩).alloc _).app r1 r2)
           clear r1 r2))
      go_meet
      exact ⟨_, _, rfl, H9.out⟩
    · go_wp2_with (first
        | (at_builtin
           refine wpList_appL rfl (.tmp 16) (.tmp 17) rfl base (w.heap.size + 1 + 1) (.slice (some ⟨g, 0, none⟩) 0 cap) [] [84] rfl rfl (by exact ((H0.out _ (row_head HTV.out)).alloc _).row) (by decide) (by exact Blk.new' (by simp)) (by decide) (by simp; omega) ?_
           intro g9 cap9 n9 w9 hn9 r1 r2
           obtain rfl : n9 = 1 := hn9
           have H9 := hid (((H0.out _ (row_head HTV.out)).alloc _).app r1 r2)
           clear r1 r2))
      go_meet
      exact ⟨_, _, rfl, H9.out⟩
  case rest =>
    obtain ⟨g1, cap1, rfl, hev⟩ := hcut
    have H1 := hid hev
    have hb1 := hev.fr.size
    have htl : t.data.toList.length = 1 := by rw [Array.length_toList]; exact ht
    have y4 : wc.cell? ⟨w.heap.size, 4, none⟩ = some (.slice (some ⟨tg, 0, none⟩) 1 tc) := hev.bx.cell 4
    have HT1 : Hid (BySl wc lo (.slice (some ⟨tg, 0, none⟩) 1 tc) t.data.toList) := HT.out.fr hev.fr (fun g hg => HT.out.s5 hg)
    have HO1 : Hid (BySl wc lo (.slice oa on oc) oB) := HO.out.fr hev.fr (fun g hg => HO.out.s5 hg)
    have HL1 : Hid (BySl wc lo (.slice la ln lc) lB) := HL.out.fr hev.fr (fun g hg => HL.out.s5 hg)
    clear hev
    go_wp2_with (first
      | (at_builtin
         refine wpList_appB rfl (.tmp 19) (.tmp 21) rfl base lo (.slice (some ⟨g1, 0, none⟩) 1 cap1) [84] t.data.toList (.slice (some ⟨tg, 0, none⟩) 1 tc) rfl rfl H1.out.row (by decide) HT1.out (by rw [htl]; decide) (by omega) ?_
         intro g2 cap2 n2 w2 hn2 r1 r2
         have H2 := hid (H1.out.app r1 r2)
         have hsz2 := H2.out.fr.size
         have HN2 := hid hn2
         clear r1 r2 hn2)
      | (at_builtin
         refine wpList_appL rfl (.tmp 23) (.tmp 24) rfl base w2.heap.size (.slice (some ⟨g2, 0, none⟩) n2 cap2) ([84] ++ t.data.toList) [124] rfl rfl (by exact (H2.out.alloc _).row) (by decide) (by exact Blk.new w2 _ _) (by rw [List.length_append, htl]; decide) (by simp; omega) ?_
         intro g3 cap3 n3 w3 hn3 r1 r2
         have H3 := hid ((H2.out.alloc _).app r1 r2)
         have hsz3 := H3.out.fr.size
         have HN3 := hid hn3
         clear r1 r2 hn3))
    have hns : nm.data.toList.length = nm.size := by rw [Array.length_toList]; rfl
    refine (string_any k nm h1 h2 hs _ (HNm.out.ev H3.out hb0)).mono ?_
    rintro e w4 ⟨rfl, hb4⟩
    have H4 := hid (H3.out.quiet hb4)
    have hsz4 := H4.out.fr.size
    clear hb4 H2 H1 hsz2 hsz3 y4
    go_upto_region 6 with (first
      | (at_builtin
         refine wpList_appS rfl (.tmp 26) (.tmp 28) rfl base (.slice (some ⟨g3, 0, none⟩) n3 cap3) ([84] ++ t.data.toList ++ [124]) nm rfl rfl (by exact H4.out.row) (by simp) (by rw [List.length_append, List.length_append, htl]; simp; omega) (by omega) ?_
         intro g5 cap5 n5 w5 hn5 r1 r2
         have H5 := hid (H4.out.app r1 r2)
         have hsz5 := H5.out.fr.size
         have HN5 := hid hn5
         clear r1 r2 hn5)
      | (at_builtin
         refine wpList_appL rfl (.tmp 30) (.tmp 31) rfl base w5.heap.size (.slice (some ⟨g5, 0, none⟩) n5 cap5) ([84] ++ t.data.toList ++ [124] ++ nm.data.toList) [40] rfl rfl (by exact (H5.out.alloc _).row) (by decide) (by exact Blk.new w5 _ _) (by rw [List.length_append, List.length_append, List.length_append, htl, hns]; simp; omega) (by simp; omega) ?_
         intro g6 cap6 n6 w6 hn6 r1 r2
         have H6 := hid ((H5.out.alloc _).app r1 r2)
         have hsz6 := H6.out.fr.size
         have HN6 := hid hn6
         clear r1 r2 hn6))
    have hn6 : n6 = 4 + nm.size := by rw [HN6.out, List.length_append, List.length_append, List.length_append, List.length_append, htl, hns]; simp; omega
    subst hn6
    have y1 : w6.cell? ⟨w.heap.size, 1, none⟩ = some (.int .u8 sh) := H6.out.bx.cell 1
    go_upto_region 7 with fail
    go_cut [44] (fun v44 wx => w6 = wx ∧ v44 = .bool (decide (sh = 4 ∨ sh = 5)))
    case first =>
      by_cases h4 : sh = 4
      · have hz : (sh == 4) = true := by simp [h4]
        have H4' := hid h4
        clear h4
        go_wp2_with fail
        go_meet
        exact ⟨rfl, by simp [H4'.out]⟩
      · have hz : (sh == 4) = false := by simp [h4]
        have H4' := hid h4
        clear h4
        go_wp2_with fail
        all_goals go_meet
        all_goals exact ⟨rfl, by have := H4'.out; by_cases h5 : sh = 5 <;> simp [this, h5]⟩
    case rest =>
      obtain ⟨rfl, rfl⟩ := hcut
      go_upto_if 44 with fail
      go_cut [9] (fun v9 wx => ∃ g cap n', v9 = .slice (some ⟨g, 0, none⟩) n' cap ∧ n' = 4 + nm.size + (tOf sh).length ∧ Ev w wx base #[.int .u8 opf, .int .u8 sh, .slice na nl nc, .slice aa an ac, .slice (some ⟨tg, 0, none⟩) 1 tc, .slice oa on oc, .slice la ln lc] v9 (([84] ++ t.data.toList ++ [124] ++ nm.data.toList ++ [40]) ++ tOf sh))
      case first =>
        by_cases h45 : sh = 4 ∨ sh = 5
        · have hz : decide (sh = 4 ∨ sh = 5) = true := decide_eq_true h45
          have hto : tOf sh = [84] := by simp [tOf, h45]
          have HTO := hid hto
          clear hto h45
          simp only [hz]
          go_wp2_with (first
            | (at_builtin
               refine wpList_appL rfl (.tmp 45) (.tmp 46) rfl base w6.heap.size (.slice (some ⟨g6, 0, none⟩) (4 + nm.size) cap6) ([84] ++ t.data.toList ++ [124] ++ nm.data.toList ++ [40]) [84] rfl rfl (by exact (H6.out.alloc _).row) (by decide) (by exact Blk.new w6 _ _) (by rw [List.length_append, List.length_append, List.length_append, List.length_append, htl, hns]; simp; omega) (by simp; omega) ?_
               intro g7 cap7 n7 w7 hn7 r1 r2
               have H7 := hid ((H6.out.alloc _).app r1 r2)
               have HN7 := hid hn7
               clear r1 r2 hn7))
          go_meet
          rw [HTO.out]
          exact ⟨_, _, _, rfl, by rw [HN7.out, List.length_append, List.length_append, List.length_append, List.length_append, List.length_append, htl, hns]; simp; omega, H7.out⟩
        · have hz : decide (sh = 4 ∨ sh = 5) = false := decide_eq_false h45
          have hto : tOf sh = [] := by simp [tOf, h45]
          have HTO := hid hto
          clear hto h45
          simp only [hz]
          go_wp2_with fail
          go_meet
          rw [HTO.out, List.append_nil]
          exact ⟨_, _, _, rfl, by simp, H6.out⟩
      case rest =>
        obtain ⟨g7, cap7, n7, rfl, hn7, hev⟩ := hcut
        have H7 := hid hev
        have HN7 := hid hn7
        have hsz7 := hev.fr.size
        have y5 : wc.cell? ⟨w.heap.size, 5, none⟩ = some (.slice oa on oc) := hev.bx.cell 5
        have HO7 : Hid (BySl wc lo (.slice oa on oc) oB) := HO.out.fr hev.fr (fun g hg => HO.out.s5 hg)
        have htf : (tOf sh).length ≤ 1 := by unfold tOf; split <;> simp
        clear hev hn7 H6 HN6
        go_upto_region 14 with (first
          | (at_builtin
             refine wpList_appB rfl (.tmp 48) (.tmp 50) rfl base lo (.slice (some ⟨g7, 0, none⟩) n7 cap7) (([84] ++ t.data.toList ++ [124] ++ nm.data.toList ++ [40]) ++ tOf sh) oB (.slice oa on oc) rfl rfl (by exact H7.out.row) (by simp) HO7.out (by simp [htl, hns]; omega) (by omega) ?_
             intro g8 cap8 n8 w8 hn8 r1 r2
             have H8 := hid (H7.out.app r1 r2)
             have HN8 := hid hn8
             have hsz8 := H8.out.fr.size
             clear r1 r2 hn8)
          | (at_builtin
             refine wpList_appL rfl (.tmp 54) (.tmp 55) rfl base w8.heap.size (.slice (some ⟨g8, 0, none⟩) n8 cap8) (([84] ++ t.data.toList ++ [124] ++ nm.data.toList ++ [40]) ++ tOf sh ++ oB) [41, 124] rfl rfl (by exact (H8.out.alloc _).row) (by decide) (by exact Blk.new w8 _ _) (by simp [htl, hns]; omega) (by simp; omega) ?_
             intro g9 cap9 n9 w9 hn9 r1 r2
             have H9 := hid ((H8.out.alloc _).app r1 r2)
             have HN9 := hid hn9
             have hsz9 := H9.out.fr.size
             have y6 : w9.cell? ⟨w.heap.size, 6, none⟩ = some (.slice la ln lc) := H9.out.bx.cell 6
             have HL9 : Hid (BySl w9 lo (.slice la ln lc) lB) := HL.out.fr H9.out.fr (fun g hg => HL.out.s5 hg)
             clear r1 r2 hn9)
          | (at_builtin
             refine wpList_appB rfl (.tmp 57) (.tmp 59) rfl base lo (.slice (some ⟨g9, 0, none⟩) n9 cap9) (([84] ++ t.data.toList ++ [124] ++ nm.data.toList ++ [40]) ++ tOf sh ++ oB ++ [41, 124]) lB (.slice la ln lc) rfl rfl (by exact H9.out.row) (by simp) HL9.out (by simp [htl, hns]; omega) (by omega) ?_
             intro g10 cap10 n10 w10 hn10 r1 r2
             have H10 := hid (H9.out.app r1 r2)
             have HN10 := hid hn10
             have hR10 := HR.out.fr H10.out.fr (HR.out.s5 (by decide))
             have HR10 := hid hR10
             have fr10 := hR10.frozen
             have c10 := hR10.cell 2
             have lr10 := hR10.lt
             clear r1 r2 hn10 hR10))
        have hg10 : g10 ≠ r := fun h => row_ne H10.out.row HR10.out (by decide) (by simp [Value.ownBlock, h])
        have lz := H10.out.rz.lt
        have hzr : w.heap.size + 1 ≠ r := by omega
        have hrow : BRow (w10.setCell ⟨r, 2, none⟩ (.slice (some ⟨g10, 0, none⟩) n10 cap10)) base (.slice (some ⟨g10, 0, none⟩) n10 cap10) (([84] ++ t.data.toList ++ [124] ++ nm.data.toList ++ [40]) ++ tOf sh ++ oB ++ [41, 124] ++ lB) := row_set_other H10.out.row (by simp [Value.ownBlock, hg10]) _
        have hcv := conv_back hrow HN10.out
        have htx : (⟨(([84] ++ t.data.toList ++ [124] ++ nm.data.toList ++ [40]) ++ tOf sh ++ oB ++ [41, 124] ++ lB).toArray⟩ : ByteArray) = evText t nm o' l' := by
          unfold evText
          rw [HO'.out, HL'.out]
          simp
        rw [htx] at hcv
        have hn8 : n8 = 4 + nm.size + o'.size := by
          have e1 : o'.size = (tOf sh).length + oB.length := by
            have := congrArg List.length HO'.out
            rw [Array.length_toList, List.length_append] at this
            exact this
          rw [HN8.out, e1]
          simp [htl, hns]
          omega
        subst hn8
        have ho2 : o'.size ≤ 2 := by
          have := congrArg List.length HO'.out
          rw [Array.length_toList, List.length_append] at this
          have e2 : o'.size = o'.data.size := rfl
          omega
        have hrz := (H10.out.rz).set_other (a := ⟨r, 2, none⟩) hzr (.slice (some ⟨g10, 0, none⟩) n10 cap10)
        have hR11 : Blk (w10.setCell ⟨r, 2, none⟩ (.slice (some ⟨g10, 0, none⟩) n10 cap10)) r #[t0, t1, .slice (some ⟨g10, 0, none⟩) n10 cap10, qv, .int .i64 hd, .int .i64 B, t6, t7, t8, t9, t10] 40 := HR10.out.set 2 _
        have f11 : Fr (fun j => j = r ∨ S5 base w j) w (w10.setCell ⟨r, 2, none⟩ (.slice (some ⟨g10, 0, none⟩) n10 cap10)) := Fr.setCell (S := fun j => j = r ∨ S5 base w j) (H10.out.fr.mono (fun _ _ h => Or.inr h)) (p := ⟨r, 2, none⟩) (fun _ => Or.inl rfl) _
        have HROW := hid hrow
        have HRZ := hid hrz
        have HR11 := hid hR11
        have HF11 := hid f11
        have lz11 := hrz.lt
        obtain ⟨z0, z1, z2, z3, z4, z5, zf⟩ := hrz.cells6
        clear hrow hrz hR11 f11 c10 fr10 lr10 htx
        generalize (w10.setCell ⟨r, 2, none⟩ (.slice (some ⟨g10, 0, none⟩) n10 cap10)) = w11 at *
        go_wp2
        have hF := HRZ.out.sets6 (.string (evText t nm o' l')) (.int .i64 n) (.int .u32 (4 + nm.size)) (.int .u32 (4 + nm.size + o'.size)) (.int .u8 k) (.int .u8 0)
        have fF := fr_set6 w11 (w.heap.size + 1) 0 1 2 3 4 5 (.string (evText t nm o' l')) (.int .i64 n) (.int .u32 (4 + nm.size)) (.int .u32 (4 + nm.size + o'.size)) (.int .u8 k) (.int .u8 0)
        generalize ((((((w11.setCell ⟨w.heap.size + 1, 0, none⟩ (.string (evText t nm o' l'))).setCell ⟨w.heap.size + 1, 1, none⟩ (.int .i64 n)).setCell ⟨w.heap.size + 1, 2, none⟩ (.int .u32 (4 + nm.size))).setCell ⟨w.heap.size + 1, 3, none⟩ (.int .u32 (4 + nm.size + o'.size))).setCell ⟨w.heap.size + 1, 4, none⟩ (.int .u8 k)).setCell ⟨w.heap.size + 1, 5, none⟩ (.int .u8 0)) = W7 at fF hF ⊢
        clear z0 z1 z2 z3 z4 z5 zf
        obtain ⟨z0, z1, z2, z3, z4, z5, zf⟩ := hF.cells6
        have hgz : g10 ≠ w.heap.size + 1 := fun h => row_ne HROW.out HRZ.out (by decide) (by simp [Value.ownBlock, h])
        refine bodyPost_ret (v := (evItem n t nm o' l' k).v) (by simp [results, Ybaf.results18, go_sem, z0, z1, z2, z3, z4, z5, evItem, It.v]) rfl ⟨_, _, rfl, HR11.out.fr fF (fun h => hzr h.symm), row_fr HROW.out fF (fun g' hg' he => ?_), HF11.out.trans fF (fun j hj he => ?_)⟩
        · simp [Value.ownBlock] at hg'; omega
        · omega
end Go.Proofs.YbulkawpsFmt
