import Derived.Test.YbulkawpeDoorStart
import Derived.Test.YbulkawpeDoorClone
import Derived.Deep.RegionLaw
import Derived.Handy
/- Contract: (*sim.Home).Join. -/
namespace Go.Proofs.YbulkawpeDoor
open Go.RowKit
set_option linter.unusedVariables false
theorem info31 : (Ybad.prog.info? 31).map (fun i => (i.zero, i.size, i.bytes)) = some (some (.pointer none), 1, 8) := by kernel_rfl
theorem info40 : (Ybad.prog.info? 40).map (fun i => (i.zero, i.size, i.bytes)) = some (some (.slice none 0 0), 1, 24) := by kernel_rfl
theorem info4 : (Ybad.prog.info? 4).map (fun i => (i.zero, i.size, i.bytes)) = some (some (.bool false), 1, 1) := by kernel_rfl
theorem row_last {w : World} {base : Nat} {e : TypeId} {g n cap : Nat} {xs : List Value} {x : Value} (h : w.ownsRow base e 1 (.slice (some ⟨g, 0, none⟩) (n + 1) cap) (n + 1) (xs ++ [x])) : ∃ cur, Blk w g cur e ∧ cur[n]? = some x := by
  obtain ⟨cap', cur, hv, hb, hB, h1, h2, h3, h4⟩ := row_blk h (g := g) rfl
  refine ⟨cur, hB, ?_⟩
  have hl : xs.length = n := by have := h.1; simp at this; omega
  have e1 : (cur.toList.take ((n + 1) * 1))[n]? = some x := by rw [h4, List.getElem?_append_right (by omega)]; simp [hl]
  rw [List.getElem?_take] at e1
  split at e1
  · simpa using e1
  · cases e1
set_option maxHeartbeats 2000000 in
theorem join_any (H N base n m : Nat) (A S : Int) (L zv : Option Addr) (ns on st x4 x5 x8 lv : Value) (xn xo xs ls : List Value) (w : World)
    (hH : Blk w H #[.int .u64 A, .int .i64 S, .pointer L, ns, x4, x5, on, st, x8] 47)
    (on1 : w.ownsRow base 31 1 ns n xn) (on2 : w.ownsRow base 40 1 on n xo) (on3 : w.ownsRow base 4 1 st n xs) (hb : base ≤ w.heap.size) (hl : w.ownsRow base 41 1 lv m ls) (hl1 : ∀ u ∈ ls, u.oneCell' = true)
    (hN : Blk w N #[.slice none 0 0, .slice none 0 0, .slice none 0 0, .slice none 0 0] 38) (hz : w.cell? ⟨1, 0, none⟩ = some (.pointer zv)) (hN1 : N ≠ 1) (hn : n < 8) (hm : m ≤ 1024) (h1 : 1 < base) (hH1z : H ≠ 1) :
    Calls Ybad.prog 6 #[.pointer (some ⟨H, 0, none⟩), .pointer (some ⟨N, 0, none⟩), lv] w fun e w' =>
      e = .returned (.int .i64 n) ∧ ∃ ns' on' st' la lc, Blk w' H #[.int .u64 A, .int .i64 S, .pointer L, ns', x4, x5, on', st', x8] 47 ∧
        w'.ownsRow base 31 1 ns' (n + 1) (xn ++ [.pointer (some ⟨N, 0, none⟩)]) ∧ w'.ownsRow base 40 1 on' (n + 1) (xo ++ [.slice la m lc]) ∧ w'.ownsRow base 4 1 st' (n + 1) (xs ++ [.bool false]) ∧
        w'.ownsRow w.heap.size 41 1 (.slice la m lc) m ls ∧
        (∃ k' a' i' t', Blk w' N #[k', a', i', t'] 38 ∧ w'.ownsRow w.heap.size 3 1 k' (1 + m) (kindsOf m) ∧ w'.ownsRow w.heap.size 51 16 a' m (flat (adE n) m) ∧
          w'.ownsRow w.heap.size 50 1 i' m (idsOf m) ∧ w'.ownsRow w.heap.size 26 3 t' m (nowsOf A S L m)) ∧
        Fr (fun j => j = N ∨ j = H ∨ ns.ownBlock = some j ∨ on.ownBlock = some j ∨ st.ownBlock = some j) w w' ∧
        (∀ g, ns'.ownBlock = some g → ns.ownBlock = some g ∨ w.heap.size ≤ g) := by
  obtain ⟨h0, h1', h2, h3, h4, h5, h6, h7, h8, hf⟩ := hH.cells9
  have ltH := hH.lt
  have ltN := hN.lt
  have nsH := row_ne on1 hH (by decide)
  have onH := row_ne on2 hH (by decide)
  have stH := row_ne on3 hH (by decide)
  have nsN := row_ne on1 hN (by decide)
  have onN := row_ne on2 hN (by decide)
  have stN := row_ne on3 hN (by decide)
  obtain ⟨an, cn, hns, _⟩ := row_form on1
  subst hns
  have O1 := hid on1
  have O2 := hid on2
  have O3 := hid on3
  have OL := hid hl
  have HL1 := hid hl1
  clear on1 on2 on3 hl hl1
  go_enter Ybad.func6, Ybad.ntmps6
  go_wp2_with (at_builtin; refine wpList_app1 rfl (.tmp 17) (.tmp 19) 32 rfl 31 _ 1 8 Ybad.underlying32 info31 rfl (by decide) base w.heap.size (.slice an n cn) n xn #[.pointer (some ⟨N, 0, none⟩)] rfl rfl ?hown ?hR rfl ?h1 ?hn (by decide) ?hbase ?_)
  case hown => exact World.ownsRow.alloc O1.out _
  case hR => exact Blk.new' (by simp)
  case h1 => simp [Value.oneCell']
  case hn => omega
  case hbase => simp; omega
  intro g1 cap1 w1 own1 fr1 at1 lt1
  have hH1 := (hH.alloc _).fr fr1 nsH
  have HN1 := hid ((hN.alloc _).fr fr1 nsN)
  have O11 := hid own1
  have O21 := hid (row_fr (World.ownsRow.alloc O2.out _) fr1 (fun g hg => row_ne_row O2.out O1.out (by decide) hg))
  have O31 := hid (row_fr (World.ownsRow.alloc O3.out _) fr1 (fun g hg => row_ne_row O3.out O1.out (by decide) hg))
  have OL1 := hid (row_fr (World.ownsRow.alloc OL.out _) fr1 (fun g hg => row_ne_row OL.out O1.out (by decide) hg))
  have gH1 : g1 ≠ H := fun h => row_ne own1 hH1 (by decide) (by simp [Value.ownBlock, h])
  have gN1 : g1 ≠ N := fun h => row_ne own1 HN1.out (by decide) (by simp [Value.ownBlock, h])
  have FR1 : Hid (Fr (fun j => j = N ∨ j = H ∨ (Value.slice an n cn).ownBlock = some j ∨ on.ownBlock = some j ∨ st.ownBlock = some j) w w1) := ((Fr.refl _ w).alloc _).trans fr1 (fun j _ h => Or.inr (Or.inr (Or.inl h)))
  have AT1 : Hid ((Value.slice an n cn).ownBlock = some g1 ∨ w.heap.size ≤ g1) := by
    rcases at1 with h | h
    · exact Or.inl h
    · exact Or.inr (by rw [h]; simp)
  clear own1 fr1 at1 h0 h1' h2 h3 h4 h5 h6 h7 h8 hf
  obtain ⟨h0, h1', h2, h3, h4, h5, h6, h7, h8, hf⟩ := hH1.cells9
  have ltH1 := hH1.lt
  have lvH := row_ne OL1.out hH1 (by decide)
  have HS : Hid (Blk (w1.setCell ⟨H, 3, none⟩ (.slice (some ⟨g1, 0, none⟩) (n + 1) cap1)) H #[.int .u64 A, .int .i64 S, .pointer L, .slice (some ⟨g1, 0, none⟩) (n + 1) cap1, x4, x5, on, st, x8] 47) := hH1.set 3 _
  have FRS := hid (FR1.out.setCell (p := ⟨H, 3, none⟩) (fun _ => Or.inr (Or.inl rfl)) (.slice (some ⟨g1, 0, none⟩) (n + 1) cap1))
  have O1S := hid (row_set_other (a := ⟨H, 3, none⟩) O11.out (by simp [Value.ownBlock, gH1]) (.slice (some ⟨g1, 0, none⟩) (n + 1) cap1))
  have O2S := hid (row_set_other (a := ⟨H, 3, none⟩) O21.out onH (.slice (some ⟨g1, 0, none⟩) (n + 1) cap1))
  have O3S := hid (row_set_other (a := ⟨H, 3, none⟩) O31.out stH (.slice (some ⟨g1, 0, none⟩) (n + 1) cap1))
  have OLS := hid (row_set_other (a := ⟨H, 3, none⟩) OL1.out lvH (.slice (some ⟨g1, 0, none⟩) (n + 1) cap1))
  have HNS := hid (HN1.out.set_other (a := ⟨H, 3, none⟩) (hN.ne hH (by decide)) (.slice (some ⟨g1, 0, none⟩) (n + 1) cap1))
  go_wp2
  go_region_law (first
    | (refine step_app1 rfl (.tmp 27) (.tmp 30) 43 rfl 40 _ 1 24 Ybad.underlying43 info40 rfl (by decide) base wv.heap.size on n xo #[.slice la m lc] rfl rfl (by exact World.ownsRow.alloc O2V.out _) (by exact Blk.new' rfl) rfl (by simp [Value.oneCell']) (by omega) (by decide) (by simp; have := FRV.out.size; omega) ?_
       intro g2 cap2 w2 own2 fr2 at2 lt2
       have hH2 := (HV.out.alloc _).fr fr2 onH
       have HN2 := hid ((HNV.out.alloc _).fr fr2 onN)
       have O12 := hid (row_fr (World.ownsRow.alloc O1V.out _) fr2 (fun g hg => row_ne_row O1V.out O2V.out (by decide) hg))
       have O22 := hid own2
       have O32 := hid (row_fr (World.ownsRow.alloc O3V.out _) fr2 (fun g hg => row_ne_row O3V.out O2V.out (by decide) hg))
       have OC2 := hid (row_fr (World.ownsRow.alloc OCV.out _) fr2 (fun g hg => row_ne_row OCV.out O2V.out (by decide) hg))
       have FR2 := hid ((FRV.out.alloc _).trans fr2 (fun j _ h => Or.inr (Or.inr (Or.inr (Or.inl h)))))
       have gH2 : g2 ≠ H := fun h => row_ne own2 hH2 (by decide) (by simp [Value.ownBlock, h])
       have gN2 : g2 ≠ N := fun h => row_ne own2 HN2.out (by decide) (by simp [Value.ownBlock, h])
       clear own2 fr2 at2
       obtain ⟨k0, k1, k2, k3, k4, k5, k6, k7, k8, kf⟩ := hH2.cells9
       have ltH2 := hH2.lt)
    | (go_simp
       go_at_call 12
       refine (clone_row m base lv ls _ ?_ HL1.out hm).mono ?_
       exact World.ownsRow.drew OLS.out
       rintro e wv ⟨la, lc, rfl, ocv, frv⟩
       have HV := hid (HS.out.drew.fr frv (fun h => h))
       have HNV := hid (HNS.out.drew.fr frv (fun h => h))
       have O1V := hid (row_fr (World.ownsRow.drew O1S.out) frv (fun _ _ h => h))
       have O2V := hid (row_fr (World.ownsRow.drew O2S.out) frv (fun _ _ h => h))
       have O3V := hid (row_fr (World.ownsRow.drew O3S.out) frv (fun _ _ h => h))
       have FRV := hid (FRS.out.drew.trans frv (fun _ _ h => h.elim))
       have OCV := hid ocv
       clear ocv frv
       obtain ⟨d0, d1, d2, d3, d4, d5, d6, d7, d8, df⟩ := HV.out.cells9
       have ltHv := HV.out.lt))
  all_goals
    go_wp2_with (at_builtin; refine wpList_app1 rfl (.tmp 38) (.tmp 39) 44 rfl 4 _ 1 1 Ybad.underlying44 info4 rfl (by decide) base w2.heap.size st n xs #[.bool false] rfl rfl ?hown ?hR rfl ?h1 ?hn (by decide) ?hbase ?_)
    case hown => exact World.ownsRow.alloc (row_set_other O32.out stH _) _
    case hR => exact Blk.new' (by simp)
    case h1 => rfl
    case hn => omega
    case hbase => have := FR2.out.size; omega
    intro g3 cap3 w3 own3 fr3 at3 lt3
    have hH3 := ((hH2.set 6 _).alloc _).fr fr3 stH
    have HN3 := hid (((HN2.out.set_other (a := ⟨H, 6, none⟩) (hN.ne hH (by decide)) _).alloc _).fr fr3 stN)
    have O13 := hid (row_fr (World.ownsRow.alloc (row_set_other (a := ⟨H, 6, none⟩) O12.out (by simp [Value.ownBlock, gH1]) _) _) fr3 (fun g hg => row_ne_row O12.out O32.out (by decide) hg))
    have O23 := hid (row_fr (World.ownsRow.alloc (row_set_other (a := ⟨H, 6, none⟩) O22.out (by simp [Value.ownBlock, gH2]) _) _) fr3 (fun g hg => row_ne_row O22.out O32.out (by decide) hg))
    have O33 := hid own3
    have OC3 := hid (row_fr (World.ownsRow.alloc (row_set_other (a := ⟨H, 6, none⟩) OC2.out (row_ne OC2.out hH2 (by decide)) _) _) fr3 (fun g hg => row_ne_row OC2.out O32.out (by decide) hg))
    have FR3 := hid (((FR2.out.setCell (p := ⟨H, 6, none⟩) (fun _ => Or.inr (Or.inl rfl)) _).alloc _).trans fr3 (fun j _ h => Or.inr (Or.inr (Or.inr (Or.inr h)))))
    have gH3 : g3 ≠ H := fun h => row_ne own3 hH3 (by decide) (by simp [Value.ownBlock, h])
    have gN3 : g3 ≠ N := fun h => row_ne own3 HN3.out (by decide) (by simp [Value.ownBlock, h])
    clear own3 fr3 at3 k0 k1 k2 k3 k4 k5 k6 k7 k8 kf
    obtain ⟨k0, k1, k2, k3, k4, k5, k6, k7, k8, kf⟩ := hH3.cells9
    have ltH3 := hH3.lt
    go_wp2_with fail
    have hH4 := hH3.set 7 (.slice (some ⟨g3, 0, none⟩) (n + 1) cap3)
    have HN4 := hid (HN3.out.set_other (a := ⟨H, 7, none⟩) (hN.ne hH (by decide)) (.slice (some ⟨g3, 0, none⟩) (n + 1) cap3))
    have O14 := hid (row_set_other (a := ⟨H, 7, none⟩) O13.out (by simp [Value.ownBlock, gH1]) (.slice (some ⟨g3, 0, none⟩) (n + 1) cap3))
    have O24 := hid (row_set_other (a := ⟨H, 7, none⟩) O23.out (by simp [Value.ownBlock, gH2]) (.slice (some ⟨g3, 0, none⟩) (n + 1) cap3))
    have O34 := hid (row_set_other (a := ⟨H, 7, none⟩) O33.out (by simp [Value.ownBlock, gH3]) (.slice (some ⟨g3, 0, none⟩) (n + 1) cap3))
    have OC4 := hid (row_set_other (a := ⟨H, 7, none⟩) OC3.out (row_ne OC3.out hH3 (by decide)) (.slice (some ⟨g3, 0, none⟩) (n + 1) cap3))
    have FR4 := hid (FR3.out.setCell (p := ⟨H, 7, none⟩) (fun _ => Or.inr (Or.inl rfl)) (.slice (some ⟨g3, 0, none⟩) (n + 1) cap3))
    obtain ⟨curN, hgN, hcN⟩ := row_last O14.out
    obtain ⟨curO, hgO, hcO⟩ := row_last O24.out
    have hz4 := FR4.out.cell_some hz (by
      rintro (h | h | h | h | h)
      · exact hN1 h.symm
      · exact hH1z h.symm
      · have : base ≤ 1 := row_base O1.out h; omega
      · have : base ≤ 1 := row_base O2.out h; omega
      · have : base ≤ 1 := row_base O3.out h; omega)
    refine (start_any H N g1 g2 n m (n + 1) (n + 1) cap1 cap2 lc A S L zv la x4 x5 (.slice (some ⟨g3, 0, none⟩) (n + 1) cap3) x8 curN curO _ hH4 hgN hgO (by omega) (by omega) hcN hcO HN4.out hz4 hN1 hn hm (by omega) (by omega)).mono ?_
    rintro e w5 ⟨rfl, k', a', i', t', hN5, q1, q2, q3, q4, fr5⟩
    have hs5 : w.heap.size ≤ (w3.setCell ⟨H, 7, none⟩ (.slice (some ⟨g3, 0, none⟩) (n + 1) cap3)).heap.size := FR4.out.size
    have X1 := hid (row_mono q1 hs5)
    have X2 := hid (row_mono q2 hs5)
    have X3 := hid (row_mono q3 hs5)
    have X4 := hid (row_mono q4 hs5)
    have HN5 := hid hN5
    have HH5 := hid (hH4.fr fr5 (hH.ne hN (by decide)))
    have O15 := hid (row_fr O14.out fr5 (fun g hg h => by simp [Value.ownBlock] at hg; exact gN1 (hg.trans h)))
    have O25 := hid (row_fr O24.out fr5 (fun g hg h => by simp [Value.ownBlock] at hg; exact gN2 (hg.trans h)))
    have O35 := hid (row_fr O34.out fr5 (fun g hg h => by simp [Value.ownBlock] at hg; exact gN3 (hg.trans h)))
    have OC5 := hid (row_mono (row_fr OC4.out fr5 (fun g hg h => row_ne OC4.out HN4.out (by decide) (by rw [hg, h]))) (show w.heap.size ≤ _ from (by simp; have := FR1.out.size; omega)))
    have FR5 := hid (FR4.out.trans fr5 (fun _ _ h => Or.inl h))
    clear hN5 q1 q2 q3 q4 fr5
    go_wp2
    go_ret
    exact ⟨rfl, _, _, _, _, _, HH5.out, O15.out, O25.out, O35.out, OC5.out, ⟨_, _, _, _, HN5.out, X1.out, X2.out, X3.out, X4.out⟩, FR5.out, fun g hg => by simp [Value.ownBlock] at hg; subst hg; exact AT1.out⟩
end Go.Proofs.YbulkawpeDoor
