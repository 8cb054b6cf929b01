import Derived.Test.YbulkawpeDoorAddr
import Derived.Test.YbulkawpeDoorSetA
import Derived.Deep.RegionLaw
import Derived.Handy
/- Contract: (*sim.Home).start. -/
namespace Go.Proofs.YbulkawpeDoor
open Go.RowKit
set_option linter.unusedVariables false
theorem info67 : (Ybad.prog.info? 67).map (fun i => (i.zero, i.size, i.bytes)) = some (some (.agg #[.int .u64 0, .int .u64 0, .pointer none]), 3, 24) := by kernel_rfl
theorem hid {p : Prop} (h : p) : Hid p := h
theorem set3_get {xs : List Value} {k : Nat} {f0 f1 f2 : Nat → Value} (hl : k * 3 + 2 < xs.length) (h : ∀ e, e < k → xs[e * 3]? = some (f0 e) ∧ xs[e * 3 + 1]? = some (f1 e) ∧ xs[e * 3 + 2]? = some (f2 e)) :
    ∀ e, e < k + 1 → (((xs.set (k * 3) (f0 k)).set (k * 3 + 1) (f1 k)).set (k * 3 + 2) (f2 k))[e * 3]? = some (f0 e) ∧ (((xs.set (k * 3) (f0 k)).set (k * 3 + 1) (f1 k)).set (k * 3 + 2) (f2 k))[e * 3 + 1]? = some (f1 e) ∧ (((xs.set (k * 3) (f0 k)).set (k * 3 + 1) (f1 k)).set (k * 3 + 2) (f2 k))[e * 3 + 2]? = some (f2 e) := by
  intro e he
  by_cases hek : e = k
  · subst hek
    refine ⟨?_, ?_, ?_⟩
    · rw [List.getElem?_set_ne (by omega), List.getElem?_set_ne (by omega), List.getElem?_set_self (by omega)]
    · rw [List.getElem?_set_ne (by omega), List.getElem?_set_self (by simp; omega)]
    · rw [List.getElem?_set_self (by simp; omega)]
  · obtain ⟨a, b, c⟩ := h e (by omega)
    refine ⟨?_, ?_, ?_⟩ <;> rw [List.getElem?_set_ne (by omega), List.getElem?_set_ne (by omega), List.getElem?_set_ne (by omega)] <;> assumption
def kindsOf (m : Nat) : List Value := .int .i64 1 :: List.replicate m (.int .i64 2)
def idsOf : Nat → List Value
  | 0 => []
  | k + 1 => idsOf k ++ [.int .u32 ((k : Int) + 1)]
def nowsOf (A S : Int) (L : Option Addr) : Nat → List Value
  | 0 => []
  | k + 1 => nowsOf A S L k ++ [.int .u64 A, .int .i64 S, .pointer L]
/-- the address bytes of the endpoint e (from 0) of node i -/
def adE (i : Nat) (e : Nat) : Nat → Int := adB i (e + 1)
theorem kindsOf_succ (q : Nat) : kindsOf (q + 1) = kindsOf q ++ [.int .i64 2] := by
  simp [kindsOf, List.replicate_succ']
theorem adB_in_small (i e : Nat) (hi : i < 8) (he : e < 2000) (j : Nat) : 0 ≤ adE i e j ∧ adE i e j < 256 :=
  adB_in i (e + 1) (by omega) (by omega) (by omega) (by omega) j
set_option maxHeartbeats 1000000 in
theorem start_any (H N gN gO i m n1 n2 c1 c2 lc : Nat) (A S : Int) (L zv la : Option Addr) (x4 x5 st x8 : Value) (curN curO : Array Value) (w : World)
    (hH : Blk w H #[.int .u64 A, .int .i64 S, .pointer L, .slice (some ⟨gN, 0, none⟩) n1 c1, x4, x5, .slice (some ⟨gO, 0, none⟩) n2 c2, st, x8] 47)
    (hgN : Blk w gN curN 31) (hgO : Blk w gO curO 40) (hi1 : i < n1) (hi2 : i < n2) (hcN : curN[i]? = some (.pointer (some ⟨N, 0, none⟩))) (hcO : curO[i]? = some (.slice la m lc))
    (hN : Blk w N #[.slice none 0 0, .slice none 0 0, .slice none 0 0, .slice none 0 0] 38) (hz : w.cell? ⟨1, 0, none⟩ = some (.pointer zv)) (hN1 : N ≠ 1) (hi : i < 8) (hm : m ≤ 1024) (hn1 : n1 ≤ 100) (hn2 : n2 ≤ 100) :
    Calls Ybad.prog 13 #[.pointer (some ⟨H, 0, none⟩), .int .i64 i] w fun e w' =>
      e = .returned (.tuple #[]) ∧ ∃ k' a' i' t', Blk w' N #[k', a', i', t'] 38 ∧ w'.ownsRow w.heap.size 3 1 k' (1 + m) (kindsOf m) ∧ w'.ownsRow w.heap.size 51 16 a' m (flat (adE i) m) ∧
        w'.ownsRow w.heap.size 50 1 i' m (idsOf m) ∧ w'.ownsRow w.heap.size 26 3 t' m (nowsOf A S L m) ∧ Fr (fun j => j = N) w w' := by
  obtain ⟨h0, h1, h2, h3, h4, h5, h6, h7, h8, hf⟩ := hH.cells9
  have eN : w.cell? ⟨gN, i, none⟩ = some (.pointer (some ⟨N, 0, none⟩)) := (hgN.cell i).trans hcN
  have eO : w.cell? ⟨gO, i, none⟩ = some (.slice la m lc) := (hgO.cell i).trans hcO
  have ltH := hH.lt
  have ltN := hN.lt
  have ltgN := hgN.lt
  have ltgO := hgO.lt
  go_enter Ybad.func13, Ybad.ntmps13
  go_wp2_with (at_make; refine wpList_mk rfl (.tmp 14) (.tmp 14) 60 rfl 67 _ 3 24 Ybad.underlying60 info67 w.heap.size m .i64 .i64 rfl rfl ?hn (by decide) ?hbase w.heap.size rfl ?_)
  case hn => omega
  case hbase => omega
  intro w1 own1 fr1
  have hH1 := hH.fr fr1 (fun h => h)
  have hgO1 := hgO.fr fr1 (fun h => h)
  have eO1 : w1.cell? ⟨gO, i, none⟩ = some (.slice la m lc) := (hgO1.cell i).trans hcO
  clear h0 h1 h2 h3 h4 h5 h6 h7 h8 hf
  obtain ⟨h0, h1, h2, h3, h4, h5, h6, h7, h8, hf⟩ := hH1.cells9
  have FR1 : Hid (Fr (fun _ => False) w w1) := fr1
  have OW1 := hid own1
  clear own1 fr1
  go_wp2
  go_loopw [24] (fun v24 wr => ∃ (k : Nat) (xs : List Value), k ≤ m ∧ v24 = .int .i64 k ∧ wr.ownsRow w.heap.size 67 3 (.slice (some ⟨w.heap.size, 0, none⟩) m m) m xs ∧ (∀ e, e < k → xs[e * 3]? = some (.int .u64 (be8 (adE i e) 0)) ∧ xs[e * 3 + 1]? = some (.int .u64 (be8 (adE i e) 8)) ∧ xs[e * 3 + 2]? = some (.pointer zv)) ∧ Fr (fun _ => False) w wr) (fun v24 wr => m - (intOf v24).toNat)
  case atStart => exact ⟨0, _, Nat.zero_le _, rfl, OW1.out, fun e he => by omega, FR1.out⟩
  case round =>
    obtain ⟨k, xs, hk, rfl, oxr, hxs, frr⟩ := hrel
    have hHr := hH.fr frr (fun h => h)
    clear h0 h1 h2 h3 h4 h5 h6 h7 h8 hf
    obtain ⟨h0, h1, h2, h3, h4, h5, h6, h7, h8, hf⟩ := hHr.cells9
    have OXR : Hid (wr.ownsRow w.heap.size 67 3 (.slice (some ⟨w.heap.size, 0, none⟩) m m) m xs) := oxr
    have FRR : Hid (Fr (fun _ => False) w wr) := frr
    have HXS := hid hxs
    have hzr := frr.cell_some hz (fun h => h)
    have eNr := frr.cell_some eN (fun h => h)
    have eOr := frr.cell_some eO (fun h => h)
    have hgNr := hgN.fr frr (fun h => h)
    have hgOr := hgO.fr frr (fun h => h)
    have hNr := hN.fr frr (fun h => h)
    clear oxr frr hxs
    by_cases hlt' : k < m
    · go_wp2_with fail
      refine (addr_any _ i (k + 1) zv _ hzr (by omega) (by omega) (by omega) (by omega)).mono ?_
      rintro e wv ⟨rfl, hbv⟩
      have OXV : Hid (wv.ownsRow w.heap.size 67 3 (.slice (some ⟨w.heap.size, 0, none⟩) m m) m xs) := row_fr OXR.out (Fr.of_grown hbv) (fun _ _ h => h)
      have FRV : Hid (Fr (fun _ => False) w wv) := FRR.out.trans (Fr.of_grown hbv) (fun _ _ h => h)
      have hlen := hid OXV.out.1
      obtain ⟨u0, hu0⟩ : ∃ u, xs[k * 3]? = some u := ⟨xs[k * 3]'(by have := hlen.out; omega), List.getElem?_eq_getElem _⟩
      obtain ⟨u1, hu1⟩ : ∃ u, xs[k * 3 + 1]? = some u := ⟨xs[k * 3 + 1]'(by have := hlen.out; omega), List.getElem?_eq_getElem _⟩
      obtain ⟨u2, hu2⟩ : ∃ u, xs[k * 3 + 2]? = some u := ⟨xs[k * 3 + 2]'(by have := hlen.out; omega), List.getElem?_eq_getElem _⟩
      have k0 := row_cell OXV.out hu0
      have k1 := row_cell OXV.out hu1
      have k2 := row_cell OXV.out hu2
      have kf := row_frozen OXV.out
      have ltX : w.heap.size < wv.heap.size := row_lt OXV.out rfl
      clear hbv hu0 hu1 hu2
      go_wp2
      go_roundw
      case rel =>
        refine ⟨k + 1, ((xs.set (k * 3) (.int .u64 (be8 (adE i k) 0))).set (k * 3 + 1) (.int .u64 (be8 (adE i k) 8))).set (k * 3 + 2) (.pointer zv), by omega, by go_num, ?_, ?_, ?_⟩
        · exact ((row_set (row_set (row_set OXV.out _ _) _ _) _ _).alloc _).alloc _
        · exact set3_get (f0 := fun e => .int .u64 (be8 (adE i e) 0)) (f1 := fun e => .int .u64 (be8 (adE i e) 8)) (f2 := fun _ => .pointer zv) (by have := hlen.out; omega) HXS.out
        · exact ((((FRV.out.setCell (fun h => by simp at h) _).setCell (fun h => by simp at h) _).setCell (fun h => by simp at h) _).alloc _).alloc _
      case measure => simp [intOf]; omega
    · obtain rfl : k = m := by omega
      go_wp2_with fail
      refine (setAddrs_any N w.heap.size k k (.slice none 0 0) (.slice none 0 0) (adE i) zv _ hNr (fun e he j => adB_in_small i e hi (by omega) j) (row_lt OXR.out rfl) (by omega) hm ?hc).mono ?_
      case hc => intro e he; obtain ⟨a, b, c⟩ := HXS.out e he; exact ⟨row_cell OXR.out a, row_cell OXR.out b, row_cell OXR.out c⟩
      rintro e w2 ⟨rfl, kv, av, hN2, okv, oav, fr2⟩
      have hwr : w.heap.size ≤ wr.heap.size := FRR.out.size
      have HH2 := hid (hHr.fr fr2 (hHr.ne hNr (by decide)))
      have HGN2 := hid (hgNr.fr fr2 (hgNr.ne hNr (by decide)))
      have HGO2 := hid (hgOr.fr fr2 (hgOr.ne hNr (by decide)))
      have OK2 := hid (row_mono okv hwr)
      have OA2 := hid (row_mono oav hwr)
      have FR2 : Hid (Fr (fun j => j = N) w w2) := (FRR.out.mono (S' := fun j => j = N) (fun _ _ h => h.elim)).trans fr2 (fun _ _ h => h)
      have HN2 := hid hN2
      clear okv oav fr2 hN2 h0 h1 h2 h3 h4 h5 h6 h7 h8 hf
      obtain ⟨h0, h1, h2, h3, h4, h5, h6, h7, h8, hf⟩ := HH2.out.cells9
      have eO2 : w2.cell? ⟨gO, i, none⟩ = some (.slice la k lc) := (HGO2.out.cell i).trans hcO
      go_wp2
      go_loopw [56] (fun v56 wq => ∃ (q : Nat) (kv iv tv : Value), q ≤ k ∧ v56 = .int .i64 q ∧ Blk wq N #[kv, av, iv, tv] 38 ∧ wq.ownsRow w.heap.size 3 1 kv (1 + q) (kindsOf q) ∧ wq.ownsRow w.heap.size 51 16 av k (flat (adE i) k) ∧ wq.ownsRow w.heap.size 50 1 iv q (idsOf q) ∧ wq.ownsRow w.heap.size 26 3 tv q (nowsOf A S L q) ∧ Fr (fun j => j = N) w wq) (fun v56 wq => k - (intOf v56).toNat)
      case atStart => exact ⟨0, kv, _, _, Nat.zero_le _, rfl, HN2.out, OK2.out, OA2.out, World.ownsRow_nil _ _ _ _, World.ownsRow_nil _ _ _ _, FR2.out⟩
      case round =>
        obtain ⟨q, kv, iv, tv, hq, rfl, hNq, okq, oaq, oiq, otq, frq⟩ := hrel
        clear h0 h1 h2 h3 h4 h5 h6 h7 h8 hf eO2
        have hHq := hH.fr frq (hH.ne hN (by decide))
        have eNq := frq.cell_some eN (hgN.ne hN (by decide))
        obtain ⟨h0, h1, h2, h3, h4, h5, h6, h7, h8, hf⟩ := hHq.cells9
        have HNQ := hid hNq
        have OKQ := hid okq
        have OAQ := hid oaq
        have OIQ := hid oiq
        have OTQ := hid otq
        have FRQ := hid frq
        clear okq oaq oiq otq frq hNq
        by_cases hlt2 : q < k
        · have hw1 : IntKind.i64.wrap ((q : Int) + 1) = (q : Int) + 1 := by rw [IntKind.wrap_i64]; omega
          have hw2 : IntKind.u32.wrap ((q : Int) + 1) = (q : Int) + 1 := by rw [IntKind.wrap_u32]; omega
          go_wp2
          go_region_with (first
            | (go_at_call 42
               refine (addEndpoint_any N w.heap.size kv av iv tv (1 + q) q q (kindsOf q) (idsOf q) (nowsOf A S L q) (q + 1) A S L _ ?_ ?_ ?_ ?_ ?_ ?_ ?_ ?_).mono ?_
               exact HNQ.out.drew
               exact World.ownsRow.drew OKQ.out
               exact World.ownsRow.drew OIQ.out
               exact World.ownsRow.drew OTQ.out
               exact FRQ.out.size
               omega
               omega
               omega
               rintro e wv ⟨rfl, kv', iv', tv', hNv, okv, oiv, otv, frv⟩
               have HNV := hid hNv
               have OKV := hid okv
               have OIV := hid oiv
               have OTV := hid otv
               have FRV := hid frv
               clear hNv okv oiv otv frv))
          all_goals
            go_wp2
            go_roundw
            case rel =>
              refine ⟨q + 1, _, _, _, by omega, by go_num, HNV.out, ?_, ?_, OIV.out, OTV.out, ?_⟩
              · have := OKV.out
                rw [kindsOf_succ]
                exact this
              · refine row_fr (World.ownsRow.drew OAQ.out) FRV.out (fun g hg h => ?_)
                rcases h with h | h | h | h
                · exact row_ne OAQ.out HNQ.out (by decide) (by rw [hg, h])
                · exact row_ne_row OAQ.out OKQ.out (by decide) hg h
                · exact row_ne_row OAQ.out OIQ.out (by decide) hg h
                · exact row_ne_row OAQ.out OTQ.out (by decide) hg h
              · refine (FRQ.out.drew).trans FRV.out (fun j hj h => ?_)
                rcases h with h | h | h | h
                · exact h
                · have := row_base OKQ.out h; omega
                · have := row_base OIQ.out h; omega
                · have := row_base OTQ.out h; omega
            case measure => simp [intOf]; omega
        · obtain rfl : q = k := by omega
          go_wp2
          go_end0
          exact ⟨rfl, _, _, _, _, HNQ.out, OKQ.out, OAQ.out, OIQ.out, OTQ.out, FRQ.out⟩
end Go.Proofs.YbulkawpeDoor
