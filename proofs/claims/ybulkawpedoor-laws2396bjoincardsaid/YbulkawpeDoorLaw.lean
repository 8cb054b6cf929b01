import Derived.Test.YbulkawpeDoorJoin
import Derived.Test.YbulkawpeDoorEq
import Derived.Deep.RegionHeld3
import Derived.Deep.QuietTactic
import Derived.BigQuiet
import Derived.Handy
/- The walk of sim.LawS2396BJoin. -/
namespace Go.Proofs.YbulkawpeDoor
open Go.RowKit
set_option linter.unusedVariables false
set_option maxRecDepth 100000
theorem law_big (a0 a1 : Int) (m c : Nat) (ao : Option Addr) (w : World) (hm : 1024 < m) (hm2 : m ≤ 9223372036854775807) :
    Calls Ybad.prog 3 #[.int .u8 a0, .int .i64 a1, .slice ao m c] w fun e w' => e = .returned (.bool true) ∧ Below w.heap.size w w' := by
  go_enter Ybad.func3, Ybad.ntmps3
  go_wp2
  go_ret
  exact ⟨rfl, Below.refl _ _⟩
def ptrs (bs : List Nat) : List Value := bs.map fun b => .pointer (some ⟨b, 0, none⟩)
theorem ptrs_set (bs : List Nat) (p j N : Nat) (hl : bs.length = j) (hj : j < p) : (ptrs bs ++ List.replicate (p - j) (Value.pointer none)).set j (.pointer (some ⟨N, 0, none⟩)) = ptrs (bs ++ [N]) ++ List.replicate (p - (j + 1)) (Value.pointer none) := by
  have hl' : (ptrs bs).length = j := by simp [ptrs, hl]
  rw [List.set_append_right _ _ (Nat.le_of_eq hl'), hl', Nat.sub_self, show p - j = (p - (j + 1)) + 1 by omega, List.replicate_succ, List.set_cons_zero]
  simp [ptrs]
theorem row_blk' {w : World} {base : Nat} {e : TypeId} {size : Nat} {g n cap : Nat} {xs : List Value} (h : w.ownsRow base e size (.slice (some ⟨g, 0, none⟩) n cap) n xs) : ∃ cur, Blk w g cur e := by
  obtain ⟨_, cur, _, _, hB, _⟩ := row_blk h (g := g) rfl
  exact ⟨cur, hB⟩
def lsx (zs : List Int) (m k : Nat) : List Value := (zs.take k).map (Value.int .i64) ++ List.replicate (m - k) (Value.int .i64 0)
theorem lsx_len (zs : List Int) (m k : Nat) (hz : zs.length = m) (hk : k ≤ m) : (lsx zs m k).length = m := by simp [lsx, hz]; omega
theorem lsx_set (zs : List Int) (m k : Nat) (hz : zs.length = m) (hk : k < m) : (lsx zs m k).set k (.int .i64 (zs.getD k 0)) = lsx zs m (k + 1) := by
  have hl : ((zs.take k).map (Value.int .i64)).length = k := by simp; omega
  unfold lsx
  have g : zs.getD k 0 = zs[k]'(by omega) := by simp [List.getD, show k < zs.length by omega]
  rw [List.set_append_right _ _ (Nat.le_of_eq hl), hl, Nat.sub_self, show m - k = (m - (k + 1)) + 1 by omega, List.replicate_succ, List.set_cons_zero, List.take_succ_eq_append_getElem (by omega), List.map_append, List.append_assoc, g]
  rfl
theorem lsx_all (zs : List Int) (m : Nat) (hz : zs.length = m) : lsx zs m m = zs.map (Value.int .i64) := by
  simp [lsx, ← hz]
theorem idsOf_get (s e : Nat) (he : e < s) : (idsOf s)[e]? = some (.int .u32 ((e : Int) + 1)) := by
  have hl : ∀ n, (idsOf n).length = n := by intro n; induction n with | zero => rfl | succ n ih => simp [idsOf, ih]
  induction s with
  | zero => omega
  | succ n ih =>
    by_cases h : e = n
    · subst h; rw [idsOf, List.getElem?_append_right (Nat.le_of_eq (hl e)), hl, Nat.sub_self]; rfl
    · rw [idsOf, List.getElem?_append_left (by rw [hl]; omega)]; exact ih (by omega)
theorem nowsOf_len (A S : Int) (L : Option Addr) (n : Nat) : (nowsOf A S L n).length = n * 3 := by
  induction n with
  | zero => rfl
  | succ n ih => simp [nowsOf, ih]; omega
theorem nowsOf_get (A S : Int) (L : Option Addr) (s e : Nat) (he : e < s) : (nowsOf A S L s)[e * 3]? = some (.int .u64 A) ∧ (nowsOf A S L s)[e * 3 + 1]? = some (.int .i64 S) ∧ (nowsOf A S L s)[e * 3 + 2]? = some (.pointer L) := by
  induction s with
  | zero => omega
  | succ n ih =>
    have hl := nowsOf_len A S L n
    by_cases h : e = n
    · subst h
      refine ⟨?_, ?_, ?_⟩
      · rw [nowsOf, List.getElem?_append_right (by omega), hl, Nat.sub_self]; rfl
      · rw [nowsOf, List.getElem?_append_right (by omega), hl, show e * 3 + 1 - e * 3 = 1 by omega]; rfl
      · rw [nowsOf, List.getElem?_append_right (by omega), hl, show e * 3 + 2 - e * 3 = 2 by omega]; rfl
    · obtain ⟨a, b, c⟩ := ih (by omega)
      refine ⟨?_, ?_, ?_⟩
      · rw [nowsOf, List.getElem?_append_left (by omega)]; exact a
      · rw [nowsOf, List.getElem?_append_left (by omega)]; exact b
      · rw [nowsOf, List.getElem?_append_left (by omega)]; exact c
theorem flat_len (B : Nat → Nat → Int) (n : Nat) : (flat B n).length = n * 16 := by
  induction n with
  | zero => rfl
  | succ n ih => simp [flat, ih, adCells]; omega
theorem flat_get (B : Nat → Nat → Int) (s e i : Nat) (he : e < s) (hi : i < 16) : (flat B s)[e * 16 + i]? = some (.int .u8 (B e i)) := by
  induction s with
  | zero => omega
  | succ n ih =>
    have hl := flat_len B n
    by_cases h : e = n
    · subst h
      rw [flat, List.getElem?_append_right (by omega), hl, show e * 16 + i - e * 16 = i by omega]
      have : i = 0 ∨ i = 1 ∨ i = 2 ∨ i = 3 ∨ i = 4 ∨ i = 5 ∨ i = 6 ∨ i = 7 ∨ i = 8 ∨ i = 9 ∨ i = 10 ∨ i = 11 ∨ i = 12 ∨ i = 13 ∨ i = 14 ∨ i = 15 := by omega
      rcases this with rfl | rfl | rfl | rfl | rfl | rfl | rfl | rfl | rfl | rfl | rfl | rfl | rfl | rfl | rfl | rfl <;> rfl
    · rw [flat, List.getElem?_append_left (by omega)]; exact ih (by omega)
theorem kindsOf_get (s e : Nat) (he : e < s) : (kindsOf s)[e + 1]? = some (.int .i64 2) := by
  unfold kindsOf
  rw [List.getElem?_cons_succ, List.getElem?_replicate, if_pos he]
theorem ad13 (q e : Nat) (hq : q < 8) : adE q e 13 = (q : Int) + 1 := by
  show ((q : Int) + 1) % 256 = _; omega
theorem neq_want (q e : Nat) (hq : q < 8) (w : World) : (binOp .neq 51 (.agg #[.int .u8 254, .int .u8 128, .int .u8 0, .int .u8 0, .int .u8 0, .int .u8 0, .int .u8 0, .int .u8 0, .int .u8 0, .int .u8 0, .int .u8 0, .int .u8 0, .int .u8 (((q : Int) + 1) / 256), .int .u8 ((q : Int) + 1), .int .u8 (((e : Int) + 1) / 256), .int .u8 (((e : Int) + 1) % 256)]) (.agg #[.int .u8 254, .int .u8 128, .int .u8 0, .int .u8 0, .int .u8 0, .int .u8 0, .int .u8 0, .int .u8 0, .int .u8 0, .int .u8 0, .int .u8 0, .int .u8 0, .int .u8 (((q : Int) + 1) / 256), .int .u8 ((q : Int) + 1), .int .u8 (((e : Int) + 1) / 256), .int .u8 (((e : Int) + 1) % 256)])).run Ybad.prog w = .ok (.bool false) w := by
  have h := neq51 w (adE q e)
  unfold adCells at h
  rw [ad13 q e hq] at h
  exact h
theorem eqg51 : Ybad.prog.eqGuardType Ybad.prog.depth 51 = false := by kernel_rfl
set_option maxHeartbeats 4000000 in
theorem law_small (a0 a1 : Int) (m c b off : Nat) (ao : Option Addr) (zs : List Int) (zv : Option Addr) (w : World) (hm : m ≤ 1024) (p0 : 0 ≤ a0) (p1 : a0 ≤ 255) (q0 : -9223372036854775808 ≤ a1) (q1 : a1 ≤ 9223372036854775807)
    (hz : w.cell? ⟨1, 0, none⟩ = some (.pointer zv)) (hzl : zs.length = m) (hao : m = 0 ∨ ao = some ⟨b, off, none⟩) (hc : ∀ j, j < m → w.cell? ⟨b, off + j, none⟩ = some (.int .i64 (zs.getD j 0))) :
    Calls Ybad.prog 3 #[.int .u8 a0, .int .i64 a1, .slice ao m c] w fun e w' => e = .returned (.bool true) ∧ Below w.heap.size w w' := by
  obtain ⟨p, hp⟩ : ∃ p : Nat, a0 % 8 = (p : Int) := ⟨(a0 % 8).toNat, by omega⟩
  have hp8 : p < 8 := by omega
  obtain ⟨A, hA⟩ : ∃ A : Int, A = a1 % 1000000000 := ⟨_, rfl⟩
  obtain ⟨S, hS⟩ : ∃ S : Int, S = a1 / 1000000000 := ⟨_, rfl⟩
  have hadd : ∀ w, Calls Ybad.prog 4 #[.agg #[.int .u64 0, .int .i64 0, .pointer none], .int .i64 a1] w fun e w' => e = .returned (.agg #[.int .u64 A, .int .i64 S, .pointer none]) ∧ Below w.heap.size w w' := by
    intro w
    have h := add_any 0 0 0 a1 (by omega) (by omega) (by omega) w (by omega) (by omega) q0 q1
    rw [hA, hS]
    simpa using h
  have A0 : 0 ≤ A := by omega
  have A1 : A < 1000000000 := by omega
  have HADD := hid hadd
  have HAO := hid hao
  have HC := hid hc
  have HZL := hid hzl
  clear hadd hao hc hzl hA hS
  go_enter Ybad.func3, Ybad.ntmps3
  go_wp2_with fail
  refine (HADD.out _).mono ?_
  rintro e w1 ⟨rfl, hb1⟩
  go_wp2_with (first | (at_make; refine wpList_mk rfl (.tmp 35) (.tmp 35) 32 rfl 31 _ 1 8 Ybad.underlying32 info31 w.heap.size p .i64 .i64 rfl rfl ?hn (by decide) ?hbase _ rfl ?_) | go_in)
  case hn => omega
  case hbase => have := hb1.size; simp only [World.size_alloc]; omega
  intro w2 own2 fr2
  have hT2 : Blk w2 w1.heap.size #[.int .u64 A, .int .i64 S, .pointer none] 26 := (((Blk.new w1 _ _).alloc _).alloc _).fr fr2 (fun h => h)
  have hH2 : Blk w2 (w1.heap.size + 1 + 1) #[.int .u64 A, .int .i64 S, .pointer none, .slice none 0 0, .nilFunc, .int .i64 0, .slice none 0 0, .slice none 0 0, .slice none 0 0] 47 := Blk.fr (Blk.new' (by simp)) fr2 (fun h => h)
  have hb2 : Below w.heap.size w w2 := Fr.below (S := fun k => w.heap.size ≤ k) (Fr.trans (((((Fr.of_below hb1)).alloc _).alloc _).alloc _) fr2 (fun _ _ h => h.elim)) (Nat.le_refl _) (fun _ h => h)
  rw [toList_madeCells_one] at own2
  have s1 : w.heap.size ≤ w1.heap.size := hb1.size
  have oH : w1.heap.size + 1 + 1 + 1 ≠ w1.heap.size + 1 + 1 := by omega
  have s2 : w.heap.size ≤ w1.heap.size + 1 + 1 := by omega
  clear fr2 hb1
  generalize w1.heap.size + 1 + 1 + 1 = OB at *
  generalize w1.heap.size + 1 + 1 = H at *
  generalize w1.heap.size = TB at *
  have HT2 := hid hT2
  have HH2 := hid hH2
  have OO2 := hid own2
  have HB2 := hid hb2
  clear own2 hb2 hT2 hH2
  go_wp2
  go_loopw [11] (fun v11 wr => ∃ (j : Nat) (ns on st : Value) (bs : List Nat) (xo : List Value), j ≤ p ∧ v11 = .int .i64 j ∧ bs.length = j ∧
      Blk wr H #[.int .u64 A, .int .i64 S, .pointer none, ns, .nilFunc, .int .i64 0, on, st, .slice none 0 0] 47 ∧
      wr.ownsRow w.heap.size 31 1 ns j (ptrs bs) ∧ wr.ownsRow w.heap.size 40 1 on j xo ∧ (∀ v ∈ xo, ∃ la lc, v = .slice la 0 lc) ∧ wr.ownsRow w.heap.size 4 1 st j (List.replicate j (.bool false)) ∧
      wr.ownsRow w.heap.size 31 1 (.slice (some ⟨OB, 0, none⟩) p p) p (ptrs bs ++ List.replicate (p - j) (.pointer none)) ∧ ns.ownBlock ≠ some OB ∧
      (∀ q ∈ bs, ∃ ka kc x1 x2 x3, Blk wr q #[.slice ka 1 kc, x1, x2, x3] 38) ∧ Blk wr TB #[.int .u64 A, .int .i64 S, .pointer none] 26 ∧ Below w.heap.size w wr) (fun v11 wr => p - (intOf v11).toNat)
  case atStart =>
    refine ⟨0, .slice none 0 0, .slice none 0 0, .slice none 0 0, [], [], Nat.zero_le _, rfl, rfl, HH2.out, World.ownsRow_nil _ _ _ _, World.ownsRow_nil _ _ _ _, by simp, World.ownsRow_nil _ _ _ _, OO2.out, by simp [Value.ownBlock], by simp, HT2.out, HB2.out⟩
  case round =>
    obtain ⟨j, ns, on, st, bs, xo, hj, rfl, hbs, hHr, o1, o2, hxo, o3, oo, nsO, hbq, hTr, hbr⟩ := hrel
    have HH := hid hHr
    have O1 := hid o1
    have O2 := hid o2
    have O3 := hid o3
    have OO := hid oo
    have HXO := hid hxo
    have HBQ := hid hbq
    have HT := hid hTr
    have HB := hid hbr
    have HBS := hid hbs
    clear hHr o1 o2 hxo o3 oo hbq hTr hbr hbs
    by_cases hlt : j < p
    · have ltO := row_lt OO.out (g := OB) rfl
      have cO := row_cell OO.out (j := j) (u := .pointer none) (by
        have hl : (ptrs bs).length = j := by simp [ptrs, HBS.out]
        rw [List.getElem?_append_right (Nat.le_of_eq hl), hl, Nat.sub_self, List.getElem?_replicate, if_pos (by omega)])
      have fO := row_frozen OO.out
      go_wp2_with fail
      have oN : OB ≠ wr.heap.size := by omega
      have hz1 : 1 < w.heap.size := World.block_lt_of_cell? w _ hz
      have hwr : w.heap.size ≤ wr.heap.size := HB.out.size
      obtain ⟨curO, hBO⟩ := row_blk' OO.out
      have HBO := hid hBO
      clear hBO
      have bO := row_base OO.out (g := OB) rfl
      have onO := row_ne_row OO.out O2.out (by decide) (g := OB) rfl
      have stO := row_ne_row OO.out O3.out (by decide) (g := OB) rfl
      refine (join_any H wr.heap.size w.heap.size j 0 A S none zv ns on st .nilFunc (.int .i64 0) (.slice none 0 0) (.slice none 0 0) (ptrs bs) xo (List.replicate j (.bool false)) [] _ ?hH ?c1 ?c2 ?c3 ?cb (World.ownsRow_nil _ _ _ _) (by simp) ?cN ?cz (by omega) (by omega) (by omega) hz1 (by omega)).mono ?_
      case hH => exact (HH.out.set_other (by simpa using fun h => oH h.symm) _).alloc _
      case c1 => exact World.ownsRow.alloc (row_set_other O1.out nsO _) _
      case c2 => exact World.ownsRow.alloc (row_set_other O2.out onO _) _
      case c3 => exact World.ownsRow.alloc (row_set_other O3.out stO _) _
      case cb => simp; omega
      case cN => exact Blk.new' (by simp)
      case cz => exact cell_up ((HB.out.setCell bO _).alloc (by simp; omega) _) hz
      rintro e w3 ⟨rfl, ns', on', st', la, lc, hH3, p1', p2', p3', p4', ⟨k', a', i', t', hN3, r1, r2, r3, r4⟩, fr3, hns'⟩
      have HH3 := hid hH3
      have P1 := hid p1'
      have P2 := hid p2'
      have P3 := hid p3'
      have HN3 := hid hN3
      have R1 := hid r1
      have FR3 := hid fr3
      have HNS := hid hns'
      clear hH3 p1' p2' p3' p4' hN3 r1 r2 r3 r4 fr3 hns'
      go_wp2
      go_roundw
      case rel =>
        refine ⟨j + 1, ns', on', st', bs ++ [wr.heap.size], xo ++ [.slice la 0 lc], by omega, by go_num, by simp [HBS.out], HH3.out, ?_, P2.out, ?_, ?_, ?_, ?_, ?_, ?_, ?_⟩
        · have := P1.out
          simpa [ptrs] using this
        · intro v hv
          rcases List.mem_append.1 hv with hv | hv
          · exact HXO.out v hv
          · exact ⟨la, lc, by simpa using hv⟩
        · have := P3.out
          rwa [← List.replicate_succ'] at this
        · rw [← ptrs_set bs p j wr.heap.size HBS.out hlt]
          refine row_fr (World.ownsRow.alloc (row_set OO.out j _) _) FR3.out (fun g hg h => ?_)
          simp [Value.ownBlock] at hg
          subst hg
          rcases h with h | h | h | h | h
          · exact oN h
          · exact oH h
          · exact nsO h
          · exact onO h
          · exact stO h
        · intro h
          rcases HNS.out OB h with h | h
          · exact nsO h
          · simp at h; omega
        · intro q hq
          rcases List.mem_append.1 hq with hq | hq
          · obtain ⟨ka, kc, x1, x2, x3, hB⟩ := HBQ.out q hq
            refine ⟨ka, kc, x1, x2, x3, Blk.fr ((hB.set_other (by exact hB.ne HBO.out (by decide)) _).alloc _) FR3.out ?_⟩
            rintro (h | h | h | h | h)
            · have := hB.lt; omega
            · exact hB.ne HH.out (by decide) h
            · exact row_ne O1.out hB (by decide) h
            · exact row_ne O2.out hB (by decide) h
            · exact row_ne O3.out hB (by decide) h
          · obtain rfl : q = wr.heap.size := by simpa using hq
            obtain ⟨ka, kc, hk, _⟩ := row_form R1.out
            subst hk
            exact ⟨ka, kc, _, _, _, HN3.out⟩
        · refine Blk.fr ((HT.out.set_other (by exact HT.out.ne HBO.out (by decide)) _).alloc _) FR3.out ?_
          rintro (h | h | h | h | h)
          · have := HT.out.lt; omega
          · exact HT.out.ne HH.out (by decide) h
          · exact row_ne O1.out HT.out (by decide) h
          · exact row_ne O2.out HT.out (by decide) h
          · exact row_ne O3.out HT.out (by decide) h
        · refine ((HB.out.setCell bO _).alloc (by simp; omega) _).trans (FR3.out.below (by simp; omega) ?_)
          rintro k (h | h | h | h | h)
          · omega
          · omega
          · exact row_base O1.out h
          · exact row_base O2.out h
          · exact row_base O3.out h
      case measure => simp [intOf]; omega
    · obtain rfl : j = p := by omega
      have hwr : w.heap.size ≤ wr.heap.size := HB.out.size
      go_wp2_with (at_make; refine wpList_mk rfl (.tmp 56) (.tmp 56) 40 rfl 41 _ 1 8 Ybad.underlying40 info41 w.heap.size m .i64 .i64 rfl rfl ?hn (by decide) ?hbase _ rfl ?_)
      case hn => omega
      case hbase => omega
      intro w4 own4 fr4
      rw [toList_madeCells_one] at own4
      have HH4 := hid (HH.out.fr fr4 (fun h => h))
      have O14 := hid (row_fr O1.out fr4 (fun _ _ h => h))
      have O24 := hid (row_fr O2.out fr4 (fun _ _ h => h))
      have O34 := hid (row_fr O3.out fr4 (fun _ _ h => h))
      have OO4 := hid (row_fr OO.out fr4 (fun _ _ h => h))
      have HT4 := hid (HT.out.fr fr4 (fun h => h))
      have HBQ4 : Hid (∀ q ∈ bs, ∃ ka kc x1 x2 x3, Blk w4 q #[.slice ka 1 kc, x1, x2, x3] 38) := fun q hq => by
        obtain ⟨ka, kc, x1, x2, x3, hB⟩ := HBQ.out q hq
        exact ⟨ka, kc, x1, x2, x3, hB.fr fr4 (fun h => h)⟩
      have OL4 := hid own4
      have HB4 := hid (HB.out.trans (fr4.below hwr (fun _ h => h.elim)))
      have lO := row_lt OO.out (g := OB) rfl
      have lH := HH.out.lt
      have lT := HT.out.lt
      have nsL : Hid (ns.ownBlock ≠ some wr.heap.size) := fun h => by have := row_lt O1.out h; omega
      clear HH O1 O2 O3 OO HT HBQ HB own4 fr4
      obtain ⟨LB, hLB⟩ : ∃ LB, wr.heap.size = LB := ⟨_, rfl⟩
      rw [hLB] at OL4 lO lH lT hwr nsL ⊢
      clear hLB
      go_wp2
      go_loopw [60] (fun v60 wr => ∃ (k : Nat), k ≤ m ∧ v60 = .int .i64 k ∧ wr.ownsRow w.heap.size 41 1 (.slice (some ⟨LB, 0, none⟩) m m) m (lsx zs m k) ∧ Fr (fun j => j = LB) w4 wr) (fun v60 wr => m - (intOf v60).toNat)
      case atStart => exact ⟨0, Nat.zero_le _, rfl, (by simpa [lsx] using OL4.out), Fr.refl _ _⟩
      case round =>
        obtain ⟨k, hk, rfl, olr, frr⟩ := hrel
        have OLR := hid olr
        have FRR := hid frr
        clear olr frr
        by_cases hlt2 : k < m
        · have hao : ao = some ⟨b, off, none⟩ := by rcases HAO.out with h | h; omega; exact h
          have hc0 := HC.out k hlt2
          have hbw : b < w.heap.size := World.block_lt_of_cell? w _ hc0
          have hc1 := FRR.out.cell_some ((HB4.out.cell (p := ⟨b, off + k, none⟩) hbw).trans hc0) (by simp; omega)
          have hc2 := row_cell OLR.out (j := k) (u := .int .i64 0) (by
            have hl : ((zs.take k).map (Value.int .i64)).length = k := by simp; have := HZL.out; omega
            unfold lsx
            rw [List.getElem?_append_right (Nat.le_of_eq hl), hl, Nat.sub_self, List.getElem?_replicate, if_pos (by omega)])
          have hfL := row_frozen OLR.out
          have lLr := row_lt OLR.out (g := LB) rfl
          clear hc0
          go_wp2
          go_roundw
          case rel => exact ⟨k + 1, by omega, by go_num, (by rw [← lsx_set zs m k HZL.out hlt2]; exact row_set OLR.out k _), FRR.out.setCell (fun _ => rfl) _⟩
          case measure => simp [intOf]; omega
        · obtain rfl : k = m := by omega
          go_wp2_with fail
          have hz1 : 1 < w.heap.size := World.block_lt_of_cell? w _ hz
          have hw4 : w.heap.size ≤ w4.heap.size := HB4.out.size
          have hwr2 : w4.heap.size ≤ wr.heap.size := FRR.out.size
          have lL4 := row_lt OL4.out (g := LB) rfl
          have onL := row_ne_row OL4.out O24.out (by decide) (g := LB) rfl
          have stL := row_ne_row OL4.out O34.out (by decide) (g := LB) rfl
          have onO := row_ne_row OO4.out O24.out (by decide) (g := OB) rfl
          have stO := row_ne_row OO4.out O34.out (by decide) (g := OB) rfl
          have HHr := hid (HH4.out.fr FRR.out (by omega))
          have O1r := hid (row_fr O14.out FRR.out (fun g hg h => nsL.out (by rw [hg, h])))
          have O2r := hid (row_fr O24.out FRR.out (fun g hg h => onL (by rw [hg, h])))
          have O3r := hid (row_fr O34.out FRR.out (fun g hg h => stL (by rw [hg, h])))
          have OOr := hid (row_fr OO4.out FRR.out (fun g hg h => by simp [Value.ownBlock] at hg; omega))
          have HTr := hid (HT4.out.fr FRR.out (by omega))
          have HBQr : Hid (∀ q ∈ bs, ∃ ka kc x1 x2 x3, Blk wr q #[.slice ka 1 kc, x1, x2, x3] 38) := fun q hq => by
            obtain ⟨ka, kc, x1, x2, x3, hB⟩ := HBQ4.out q hq
            obtain ⟨cL, hBL⟩ := row_blk' OL4.out
            exact ⟨ka, kc, x1, x2, x3, hB.fr FRR.out (hB.ne hBL (by decide))⟩
          have HBr := hid (HB4.out.trans (FRR.out.below hw4 (fun j h => by omega)))
          have OLr : Hid (wr.ownsRow w.heap.size 41 1 (.slice (some ⟨LB, 0, none⟩) k k) k (zs.map (Value.int .i64))) := by have := OLR.out; rw [lsx_all zs k HZL.out] at this; exact this
          clear HH4 O14 O24 O34 OO4 HT4 HBQ4 HB4 OL4 OLR FRR
          refine (join_any H wr.heap.size w.heap.size j k A S none zv ns on st .nilFunc (.int .i64 0) (.slice none 0 0) (.slice (some ⟨LB, 0, none⟩) k k) (ptrs bs) xo (List.replicate j (.bool false)) (zs.map (Value.int .i64)) _ (HHr.out.alloc _) (World.ownsRow.alloc O1r.out _) (World.ownsRow.alloc O2r.out _) (World.ownsRow.alloc O3r.out _) ?cb (World.ownsRow.alloc OLr.out _) ?c1 (Blk.new' rfl) ?cz (by omega) (by omega) (by omega) hz1 (by omega)).mono ?_
          case cb => simp; omega
          case c1 => exact ints_oneCell _ _
          case cz => exact cell_up (HBr.out.alloc (by omega) _) hz
          rintro e w5 ⟨rfl, ns', on', st', la, lc, hH5, p1', p2', p3', p4', ⟨k', a', i', t', hN5, r1, r2, r3, r4⟩, fr5, hns'⟩
          have HH := hid hH5
          have P1 := hid p1'
          have P2 := hid p2'
          have P3 := hid p3'
          have P4 := hid p4'
          have HN := hid hN5
          have R1 := hid r1
          have R2 := hid r2
          have R3 := hid r3
          have R4 := hid r4
          have lO5 := row_lt OOr.out (g := OB) rfl
          have lL5 := row_lt OLr.out (g := LB) rfl
          have OO := hid (row_fr (World.ownsRow.alloc OOr.out _) fr5 (fun g hg h => by
            simp [Value.ownBlock] at hg
            subst hg
            rcases h with h | h | h | h | h
            · omega
            · exact oH h
            · exact nsO h
            · exact onO h
            · exact stO h))
          have OL := hid (row_fr (World.ownsRow.alloc OLr.out _) fr5 (fun g hg h => by
            simp [Value.ownBlock] at hg
            subst hg
            rcases h with h | h | h | h | h
            · omega
            · omega
            · exact nsL.out h
            · exact onL h
            · exact stL h))
          have HBQ : Hid (∀ q ∈ bs, ∃ ka kc x1 x2 x3, Blk w5 q #[.slice ka 1 kc, x1, x2, x3] 38) := fun q hq => by
            obtain ⟨ka, kc, x1, x2, x3, hB⟩ := HBQr.out q hq
            refine ⟨ka, kc, x1, x2, x3, Blk.fr (hB.alloc _) fr5 ?_⟩
            rintro (h | h | h | h | h)
            · have := hB.lt; omega
            · exact hB.ne HHr.out (by decide) h
            · exact row_ne O1r.out hB (by decide) h
            · exact row_ne O2r.out hB (by decide) h
            · exact row_ne O3r.out hB (by decide) h
          have HT : Hid (Blk w5 TB #[.int .u64 A, .int .i64 S, .pointer none] 26) := by
            refine Blk.fr (HTr.out.alloc _) fr5 ?_
            rintro (h | h | h | h | h)
            · have := HTr.out.lt; omega
            · exact HTr.out.ne HHr.out (by decide) h
            · exact row_ne O1r.out HTr.out (by decide) h
            · exact row_ne O2r.out HTr.out (by decide) h
            · exact row_ne O3r.out HTr.out (by decide) h
          have HB : Hid (Below w.heap.size w w5) := by
            refine (HBr.out.alloc (by omega) _).trans (fr5.below (by simp; omega) ?_)
            rintro x (h | h | h | h | h)
            · omega
            · omega
            · exact row_base O1r.out h
            · exact row_base O2r.out h
            · exact row_base O3r.out h
          have P4L : Hid ((Value.slice la k lc).ownBlock ≠ some LB) := fun h => by have := row_base p4' h; simp at this; omega
          generalize wr.heap.size = N at *
          clear hH5 p1' p2' p3' p4' hN5 r1 r2 r3 r4 fr5 hns' HHr O1r O2r O3r OOr HTr HBQr HBr OLr
          obtain ⟨gn, cn, hfn, _, lgn⟩ := P1.out.form (by omega)
          obtain ⟨go, co, hfo, _, lgo⟩ := P2.out.form (by omega)
          obtain ⟨gs, cs, hfs, _, lgs⟩ := P3.out.form (by omega)
          obtain ⟨gk, ck, hfk, _, lgk⟩ := R1.out.form (by omega)
          obtain ⟨aa, ca, hfa, _⟩ := row_form R2.out
          obtain ⟨ai, ci, hfi, _⟩ := row_form R3.out
          obtain ⟨at', ct, hft, _⟩ := row_form R4.out
          subst hfn hfo hfs hfk hfa hfi hft
          obtain ⟨h0, h1, h2, h3, h4, h5, h6, h7, h8, hf⟩ := HH.out.cells9
          obtain ⟨n0, n1, n2, n3, nf⟩ := HN.out.cells4
          have hbl : (ptrs bs).length = j := by simp [ptrs, HBS.out]
          have hxl : xo.length = j := by have := P2.out.1; simp at this; omega
          have cgn := row_cell P1.out (j := j) (u := .pointer (some ⟨N, 0, none⟩)) (by rw [List.getElem?_append_right (Nat.le_of_eq hbl), hbl, Nat.sub_self]; rfl)
          have cgo := row_cell P2.out (j := j) (u := .slice la k lc) (by rw [List.getElem?_append_right (Nat.le_of_eq hxl), hxl, Nat.sub_self]; rfl)
          have cgs := row_cell P3.out (j := j) (u := .bool false) (by rw [List.getElem?_append_right (by simp)]; simp)
          clear hbl hxl
          have lH5 := HH.out.lt
          have lN5 := HN.out.lt
          have hpn := neq31
          go_wp2
          clear hpn
          obtain ⟨t0, t1, t2, tf⟩ := HT.out.cells3
          have lT5 := HT.out.lt
          go_region_held3 (fun w' => w'.cell? ⟨H, 0, none⟩ = some (.int .u64 A) ∧ w'.cell? ⟨H, 1, none⟩ = some (.int .i64 S) ∧ w'.cell? ⟨H, 2, none⟩ = some (.pointer none) ∧ w'.cell? ⟨TB, 0, none⟩ = some (.int .u64 A) ∧ w'.cell? ⟨TB, 1, none⟩ = some (.int .i64 S) ∧ w'.cell? ⟨TB, 2, none⟩ = some (.pointer none)) (go_keep)
            (first
              | (go_at_call 7
                 refine (equal_any A S none none A0 A1 _).mono ?_
                 rintro e w6 ⟨rfl, hb6⟩
                 have HB6 := hid hb6
                 have d0 := (hb6.cell (p := ⟨H, 0, none⟩) lH5).trans h0
                 have d1 := (hb6.cell (p := ⟨H, 1, none⟩) lH5).trans h1
                 have d2 := (hb6.cell (p := ⟨H, 2, none⟩) lH5).trans h2
                 have d3 := (hb6.cell (p := ⟨TB, 0, none⟩) lT5).trans t0
                 have d4 := (hb6.cell (p := ⟨TB, 1, none⟩) lT5).trans t1
                 have d5 := (hb6.cell (p := ⟨TB, 2, none⟩) lT5).trans t2
                 clear hb6))
          have FR6 : Hid (Fr (fun _ => False) w5 w6) := Fr.trans ((Fr.refl _ w5).drew) (Fr.of_grown HB6.out) (fun _ _ h => h)
          have HLN : Hid (H ≠ LB) := by show H ≠ LB; omega
          obtain ⟨cL, hBL⟩ := row_blk' OL.out
          have HBL := hid hBL
          clear HB6 d0 d1 d2 d3 d4 d5 h0 h1 h2 h3 h4 h5 h6 h7 h8 hf n0 n1 n2 n3 nf t0 t1 t2 tf cgn cgo cgs hBL
          go_wp2
          go_loopw [17] (fun v17 wr => ∃ (q : Nat), q ≤ j ∧ v17 = .int .i64 q ∧ Fr (fun _ => False) w5 wr) (fun v17 wr => j - (intOf v17).toNat)
          case atStart => exact ⟨0, Nat.zero_le _, rfl, FR6.out⟩
          case round =>
            obtain ⟨q, hq, rfl, frr⟩ := hrel
            have FRR := hid frr
            clear frr
            by_cases hlt3 : q < j
            · obtain ⟨x, hx⟩ : ∃ x, bs[q]? = some x := ⟨bs[q]'(by have := HBS.out; omega), List.getElem?_eq_getElem _⟩
              obtain ⟨ka, kc, y1, y2, y3, hBx⟩ := HBQ.out x (List.mem_of_getElem? hx)
              have hpx : (ptrs bs)[q]? = some (.pointer (some ⟨x, 0, none⟩)) := by simp [ptrs, hx]
              have hql : q < (ptrs bs).length := by have := HBS.out; simp [ptrs]; omega
              have hqx : q < xo.length := by have := P2.out.1; simp at this; omega
              obtain ⟨xla, xlc, hxe⟩ := HXO.out _ (List.getElem_mem hqx)
              obtain ⟨h0, h1, h2, h3, h4, h5, h6, h7, h8, hf⟩ := (HH.out.fr FRR.out (fun h => h)).cells9
              obtain ⟨y0, _, _, _, _⟩ := (hBx.fr FRR.out (fun h => h)).cells4
              have e1 := FRR.out.cell_some (row_cell P1.out (j := q) (u := .pointer (some ⟨x, 0, none⟩)) (by rw [List.getElem?_append_left hql]; exact hpx)) (fun h => h)
              have e2 := FRR.out.cell_some (row_cell OO.out (j := q) (u := .pointer (some ⟨x, 0, none⟩)) (by rw [List.getElem?_append_left hql]; exact hpx)) (fun h => h)
              have e3 := FRR.out.cell_some (row_cell P2.out (j := q) (u := .slice xla 0 xlc) (by rw [List.getElem?_append_left hqx, List.getElem?_eq_getElem hqx, hxe])) (fun h => h)
              have e4 := FRR.out.cell_some (row_cell P3.out (j := q) (u := .bool false) (by rw [List.getElem?_append_left (by rw [List.length_replicate]; exact hlt3), List.getElem?_replicate, if_pos hlt3])) (fun h => h)
              clear hx hpx hql hqx hxe
              have hpn := neq31
              go_wp2
              go_quiet (fail)
              go_wp2
              go_roundw
              case rel => exact ⟨q + 1, by omega, by go_num, FRR.out.drewN _⟩
              case measure => simp [intOf]; omega
            · obtain rfl : q = j := by omega
              go_wp2
              go_loopw [186] (fun v186 wr => ∃ (r : Nat) (xs : List Int), r ≤ k ∧ v186 = .int .i64 r ∧ xs.length = k ∧ wr.ownsRow w.heap.size 41 1 (.slice (some ⟨LB, 0, none⟩) k k) k (xs.map (Value.int .i64)) ∧ Fr (fun x => x = LB) w5 wr) (fun v186 wr => k - (intOf v186).toNat)
              case atStart => exact ⟨0, zs, Nat.zero_le _, rfl, HZL.out, row_fr OL.out FRR.out (fun _ _ h => h), FRR.out.mono (fun _ _ h => h.elim)⟩
              case round =>
                obtain ⟨r, xs, hr, rfl, hxs, olr, frr⟩ := hrel
                have OLR := hid olr
                have FRX := hid frr
                have HXS := hid hxs
                clear olr frr hxs
                by_cases hlt4 : r < k
                · obtain ⟨u, hu⟩ : ∃ u, xs[r]? = some u := ⟨xs[r]'(by have := HXS.out; omega), List.getElem?_eq_getElem _⟩
                  have e1 := row_cell OLR.out (j := r) (u := .int .i64 u) (by rw [List.getElem?_map, hu]; rfl)
                  have e2 := row_frozen OLR.out
                  have lLr := row_lt OLR.out (g := LB) rfl
                  clear hu
                  go_wp2
                  go_roundw
                  case rel =>
                    refine ⟨r + 1, xs.set r (wrap64 (u + 1)), by omega, by go_num, by simp [HXS.out], ?_, FRX.out.setCell (fun _ => rfl) _⟩
                    rw [List.map_set]
                    exact row_set OLR.out r _
                  case measure => simp [intOf]; omega
                · obtain rfl : r = k := by omega
                  obtain ⟨h0, h1, h2, h3, h4, h5, h6, h7, h8, hf⟩ := (HH.out.fr FRX.out HLN.out).cells9
                  have goL : go ≠ LB := fun h => row_ne P2.out HBL.out (by decide) (by simp [Value.ownBlock, h])
                  have hxl : xo.length = q := by have := P2.out.1; simp at this; omega
                  have cgo := FRX.out.cell_some (row_cell P2.out (j := q) (u := .slice la r lc) (by rw [List.getElem?_append_right (Nat.le_of_eq hxl), hxl, Nat.sub_self]; rfl)) goL
                  clear hxl
                  go_wp2
                  have hwL : w.heap.size ≤ LB := row_base OL.out (g := LB) rfl
                  go_loop [209] (fun v209 => ∃ s : Nat, s ≤ r ∧ v209 = .int .i64 s) (fun v209 => r - (intOf v209).toNat)
                  case atStart => exact ⟨0, Nat.zero_le _, rfl⟩
                  case round =>
                    obtain ⟨s, hs, rfl⟩ := hrel
                    by_cases hlt5 : s < r
                    · have hao : ao = some ⟨b, off, none⟩ := by rcases HAO.out with h | h; omega; exact h
                      have hc0 := HC.out s hlt5
                      have hbw : b < w.heap.size := World.block_lt_of_cell? w _ hc0
                      have hc1 := FRX.out.cell_some ((HB.out.cell (p := ⟨b, off + s, none⟩) hbw).trans hc0) (by simp; omega)
                      obtain ⟨gl, cl, hla0, _, _⟩ := P4.out.form (by omega)
                      have hla : la = some ⟨gl, 0, none⟩ := by simp at hla0; exact hla0.1
                      have hgL : gl ≠ LB := fun h => P4L.out (by rw [hla, h]; rfl)
                      have P4' := P4.out
                      rw [hla0] at P4'
                      have hc2 := FRX.out.cell_some (row_cell P4' (j := s) (u := .int .i64 (zs.getD s 0)) (by
                        have := HZL.out
                        rw [List.getElem?_map, List.getElem?_eq_getElem (by omega)]
                        simp [List.getD, show s < zs.length by omega])) hgL
                      clear hc0 hla0 P4'
                      go_wp2
                      go_round
                      case rel => exact ⟨s + 1, by omega, by go_num⟩
                      case measure => simp [intOf]; omega
                    · obtain rfl : s = r := by omega
                      obtain ⟨n0, n1, n2, n3, nf⟩ := (HN.out.fr FRX.out (HN.out.ne HBL.out (by decide))).cells4
                      have gkL : gk ≠ LB := fun h => row_ne R1.out HBL.out (by decide) (by simp [Value.ownBlock, h])
                      have ck0 := FRX.out.cell_some (row_cell R1.out (j := 0) (u := .int .i64 1) rfl) gkL
                      have lNr : N < wr.heap.size := Nat.lt_of_lt_of_le lN5 FRX.out.size
                      go_wp2
                      go_loopw [22] (fun v22 wr => ∃ (e : Nat), e ≤ s ∧ v22 = .int .i64 e ∧ Fr (fun x => x = LB) w5 wr) (fun v22 wr => s - (intOf v22).toNat)
                      case atStart => exact ⟨0, Nat.zero_le _, rfl, FRX.out⟩
                      case round =>
                        obtain ⟨e, he, rfl, frr⟩ := hrel
                        have FRE := hid frr
                        clear frr n0 n1 n2 n3 nf ck0 h0 h1 h2 h3 h4 h5 h6 h7 h8 hf cgo
                        by_cases hlt6 : e < s
                        · obtain ⟨ga, cca, haa0, _, _⟩ := R2.out.form (by omega)
                          obtain ⟨gi, cci, hai0, _, _⟩ := R3.out.form (by omega)
                          obtain ⟨gt, cct, hat0, _, _⟩ := R4.out.form (by omega)
                          have RA := R2.out
                          have RI := R3.out
                          have RT := R4.out
                          rw [haa0] at RA
                          rw [hai0] at RI
                          rw [hat0] at RT
                          have HN' := HN.out
                          rw [haa0, hai0, hat0] at HN'
                          have hgaL : ga ≠ LB := fun h => row_ne RA HBL.out (by decide) (by simp [Value.ownBlock, h])
                          have hgiL : gi ≠ LB := fun h => row_ne RI HBL.out (by decide) (by simp [Value.ownBlock, h])
                          have hgtL : gt ≠ LB := fun h => row_ne RT HBL.out (by decide) (by simp [Value.ownBlock, h])
                          have HTr := HT.out.fr FRE.out (HT.out.ne HBL.out (by decide))
                          have HNr := HN'.fr FRE.out (HN.out.ne HBL.out (by decide))
                          obtain ⟨n0, n1, n2, n3, nf⟩ := HNr.cells4
                          obtain ⟨t0, t1, t2, tf⟩ := HTr.cells3
                          have lNr := HNr.lt
                          have lTr := HTr.lt
                          have ek := FRE.out.cell_some (row_cell R1.out (kindsOf_get s e hlt6)) gkL
                          have ei := FRE.out.cell_some (row_cell RI (idsOf_get s e hlt6)) hgiL
                          obtain ⟨q1, q2, q3⟩ := nowsOf_get A S none s e hlt6
                          have et0 := FRE.out.cell_some (row_cell RT q1) hgtL
                          have et1 := FRE.out.cell_some (row_cell RT q2) hgtL
                          have et2 := FRE.out.cell_some (row_cell RT q3) hgtL
                          have lgi : gi < wr.heap.size := World.block_lt_of_cell? _ _ ei
                          have lgt : gt < wr.heap.size := World.block_lt_of_cell? _ _ et0
                          have hw1 : IntKind.i64.wrap ((e : Int) + 1) = (e : Int) + 1 := by rw [IntKind.wrap_i64]; omega
                          have hw2 : IntKind.u32.wrap ((e : Int) + 1) = (e : Int) + 1 := by rw [IntKind.wrap_u32]; omega
                          have EA : Hid (∀ i, i < 16 → wr.cell? ⟨ga, e * 16 + i, none⟩ = some (.int .u8 (adE q e i))) := fun i hi => FRE.out.cell_some (row_cell RA (flat_get (adE q) s e i hlt6 hi)) hgaL
                          clear RA RI RT q1 q2 q3 haa0 hai0 hat0 HN'
                          go_wp2
                          go_region_held3 (fun w' => w'.cell? ⟨N, 2, none⟩ = some (.slice (some ⟨gi, 0, none⟩) s cci) ∧ w'.cell? ⟨N, 3, none⟩ = some (.slice (some ⟨gt, 0, none⟩) s cct) ∧ w'.cell? ⟨gi, e, none⟩ = some (.int .u32 ((e : Int) + 1)) ∧ w'.cell? ⟨gt, e * 3, none⟩ = some (.int .u64 A) ∧ w'.cell? ⟨gt, e * 3 + 1, none⟩ = some (.int .i64 S) ∧ w'.cell? ⟨gt, e * 3 + 2, none⟩ = some (.pointer none) ∧ w'.cell? ⟨TB, 0, none⟩ = some (.int .u64 A) ∧ w'.cell? ⟨TB, 1, none⟩ = some (.int .i64 S) ∧ w'.cell? ⟨TB, 2, none⟩ = some (.pointer none)) (go_keep)
            (first
              | (go_at_call 7
                 refine (equal_any A S none none A0 A1 _).mono ?_
                 rintro e7 w7 ⟨rfl, hb7⟩
                 have HB7 := hid hb7
                 have d0 := (hb7.cell (p := ⟨N, 2, none⟩) lNr).trans n2
                 have d1 := (hb7.cell (p := ⟨N, 3, none⟩) lNr).trans n3
                 have d2 := (hb7.cell (p := ⟨gi, e, none⟩) lgi).trans ei
                 have d3 := (hb7.cell (p := ⟨gt, e * 3, none⟩) lgt).trans et0
                 have d4 := (hb7.cell (p := ⟨gt, e * 3 + 1, none⟩) lgt).trans et1
                 have d5 := (hb7.cell (p := ⟨gt, e * 3 + 2, none⟩) lgt).trans et2
                 have d6 := (hb7.cell (p := ⟨TB, 0, none⟩) lTr).trans t0
                 have d7 := (hb7.cell (p := ⟨TB, 1, none⟩) lTr).trans t1
                 have d8 := (hb7.cell (p := ⟨TB, 2, none⟩) lTr).trans t2
                 clear hb7))
                          have lga : ga < wr.heap.size := World.block_lt_of_cell? _ _ (EA.out 0 (by omega))
                          have FR7 : Hid (Fr (fun x => x = LB) w5 w7) := (FRE.out.drew).trans (Fr.of_grown HB7.out) (fun _ _ h => h.elim)
                          have m1 := (HB7.out.cell (p := ⟨N, 1, none⟩) lNr).trans n1
                          have s7 : wr.heap.size ≤ w7.heap.size := HB7.out.size
                          have lN7 : N < w7.heap.size := by omega
                          have lga7 : ga < w7.heap.size := by omega
                          have g0 : w7.cell? ⟨ga, e * 16, none⟩ = some (.int .u8 254) := (HB7.out.cell (p := ⟨ga, e * 16, none⟩) lga).trans (EA.out 0 (by omega))
                          have g1 : w7.cell? ⟨ga, e * 16 + 1, none⟩ = some (.int .u8 128) := (HB7.out.cell (p := ⟨ga, e * 16 + 1, none⟩) lga).trans (EA.out 1 (by omega))
                          have g2 : w7.cell? ⟨ga, e * 16 + 2, none⟩ = some (.int .u8 0) := (HB7.out.cell (p := ⟨ga, e * 16 + 2, none⟩) lga).trans (EA.out 2 (by omega))
                          have g3 : w7.cell? ⟨ga, e * 16 + 3, none⟩ = some (.int .u8 0) := (HB7.out.cell (p := ⟨ga, e * 16 + 3, none⟩) lga).trans (EA.out 3 (by omega))
                          have g4 : w7.cell? ⟨ga, e * 16 + 4, none⟩ = some (.int .u8 0) := (HB7.out.cell (p := ⟨ga, e * 16 + 4, none⟩) lga).trans (EA.out 4 (by omega))
                          have g5 : w7.cell? ⟨ga, e * 16 + 5, none⟩ = some (.int .u8 0) := (HB7.out.cell (p := ⟨ga, e * 16 + 5, none⟩) lga).trans (EA.out 5 (by omega))
                          have g6 : w7.cell? ⟨ga, e * 16 + 6, none⟩ = some (.int .u8 0) := (HB7.out.cell (p := ⟨ga, e * 16 + 6, none⟩) lga).trans (EA.out 6 (by omega))
                          have g7 : w7.cell? ⟨ga, e * 16 + 7, none⟩ = some (.int .u8 0) := (HB7.out.cell (p := ⟨ga, e * 16 + 7, none⟩) lga).trans (EA.out 7 (by omega))
                          have g8 : w7.cell? ⟨ga, e * 16 + 8, none⟩ = some (.int .u8 0) := (HB7.out.cell (p := ⟨ga, e * 16 + 8, none⟩) lga).trans (EA.out 8 (by omega))
                          have g9 : w7.cell? ⟨ga, e * 16 + 9, none⟩ = some (.int .u8 0) := (HB7.out.cell (p := ⟨ga, e * 16 + 9, none⟩) lga).trans (EA.out 9 (by omega))
                          have g10 : w7.cell? ⟨ga, e * 16 + 10, none⟩ = some (.int .u8 0) := (HB7.out.cell (p := ⟨ga, e * 16 + 10, none⟩) lga).trans (EA.out 10 (by omega))
                          have g11 : w7.cell? ⟨ga, e * 16 + 11, none⟩ = some (.int .u8 0) := (HB7.out.cell (p := ⟨ga, e * 16 + 11, none⟩) lga).trans (EA.out 11 (by omega))
                          have g12 : w7.cell? ⟨ga, e * 16 + 12, none⟩ = some (.int .u8 (((q : Int) + 1) / 256)) := (HB7.out.cell (p := ⟨ga, e * 16 + 12, none⟩) lga).trans (EA.out 12 (by omega))
                          have g13 : w7.cell? ⟨ga, e * 16 + 13, none⟩ = some (.int .u8 ((q : Int) + 1)) := by rw [← ad13 q e hp8]; exact (HB7.out.cell (p := ⟨ga, e * 16 + 13, none⟩) lga).trans (EA.out 13 (by omega))
                          have g14 : w7.cell? ⟨ga, e * 16 + 14, none⟩ = some (.int .u8 (((e : Int) + 1) / 256)) := (HB7.out.cell (p := ⟨ga, e * 16 + 14, none⟩) lga).trans (EA.out 14 (by omega))
                          have g15 : w7.cell? ⟨ga, e * 16 + 15, none⟩ = some (.int .u8 (((e : Int) + 1) % 256)) := (HB7.out.cell (p := ⟨ga, e * 16 + 15, none⟩) lga).trans (EA.out 15 (by omega))
                          clear HB7 EA d0 d1 d2 d3 d4 d5 d6 d7 d8 n0 n1 n2 n3 nf t0 t1 t2 tf ek ei et0 et1 et2 lNr lTr lgi lgt
                          go_wp2
                          have hnq := neq_want q e hp8
                          have heg := eqg51
                          go_quiet (fail)
                          go_wp2
                          go_roundw
                          case rel => exact ⟨e + 1, by omega, by go_num, (FR7.out.alloc _).drewN _⟩
                          case measure => simp [intOf]; omega
                        · go_wp2
                          go_ret
                          exact ⟨rfl, HB.out.trans (FRE.out.below (by have := HB.out.size; omega) (fun x h => by omega))⟩
end Go.Proofs.YbulkawpeDoor
