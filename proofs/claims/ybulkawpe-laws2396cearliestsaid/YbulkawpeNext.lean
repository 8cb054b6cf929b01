import Derived.Test.YbulkawpeHeld
import Derived.Deep.DeepCutAuto
import Derived.Deep.LoopGhost
namespace Go.Proofs.Ybulkawpe
open Go.RowKit
set_option linter.unusedVariables false
set_option maxRecDepth 100000
theorem ranges_drew {w : World} {b r n : Nat} {D : DataW Unit} {left : Lit → Bool} {cnt : Nat} (h : w.ranges Yba.prog 68 ptrElem b r n D left cnt) : w.drew.ranges Yba.prog 68 ptrElem b r n D left cnt := h
set_option maxHeartbeats 2000000 in
theorem nodeNext_any (Nb base mb n ec : Nat) (ea : Option Addr) (R S g : Int) (eps : List EpD) (Es : List Nat) (w : World)
    (hN : Blk w Nb #[.int .i64 0, .int .i64 0, .int .i64 0, .int .i64 1000, .float .f64 4611686018427387904, .int .i64 g, .int .i64 0, .int .i64 0, .int .i64 0, .int .i64 0, .int .i64 0, .int .i64 0, .int .i64 0, .int .i64 0, .pointer none, .pointer none, .int .u32 0, .int .u64 0, .int .i64 0, .pointer none, .int .u64 0, .int .i64 0, .pointer none, .slice none 0 0, .slice none 0 0, .nilFunc, .int .u64 (tN R), .int .i64 (tS R), .pointer none, .map (some mb), .slice ea n ec, .slice none 0 0, .int .u8 0, .int .u8 0, .int .u8 0, .int .u8 0, .int .u8 0, .int .u8 0, .int .u8 0, .int .u8 0, .bool false, .int .u64 (tN S), .int .i64 (tS S), .pointer none] 92) (hE : w.ownsRow base 40 1 (.slice ea n ec) n (Es.map fun E => .pointer (some ⟨E, 0, none⟩))) (hl : eps.length = n) (hn : n ≤ 256)
    (hep : ∀ (i E : Nat) (d : EpD), Es[i]? = some E → eps[i]? = some d → EpAt w base E d)
    (nn : Nat) (D : DataW Unit) (us : List Int) (hm : w.ownsMap Yba.prog 68 ptrElem mb nn D) (hnod : NodesAt w D us) (hus : ∀ u ∈ us, I64 u) (g0 : -9223372036854775808 ≤ g) (g1 : g ≤ 9223372036854775807) :
    Calls Yba.prog 8 #[.pointer (some ⟨Nb, 0, none⟩)] w fun e w' => ∃ G, e = .returned (.agg #[.int .u64 (tN G), .int .i64 (tS G), .pointer none]) ∧ IsMin (fun c => SeenE R S eps c ∨ ∃ u ∈ us, u ≠ 0 ∧ c = u + g) G ∧ Below w.heap.size w w' := by
  have lN := hN.lt
  have r0 : w.cell? ⟨Nb, 26, none⟩ = some (.int .u64 (tN R)) := hN.cell 26
  have r1 : w.cell? ⟨Nb, 27, none⟩ = some (.int .i64 (tS R)) := hN.cell 27
  have r2 : w.cell? ⟨Nb, 28, none⟩ = some (.pointer none) := hN.cell 28
  have s0 : w.cell? ⟨Nb, 41, none⟩ = some (.int .u64 (tN S)) := hN.cell 41
  have s1 : w.cell? ⟨Nb, 42, none⟩ = some (.int .i64 (tS S)) := hN.cell 42
  have s2 : w.cell? ⟨Nb, 43, none⟩ = some (.pointer none) := hN.cell 43
  have HN := hid hN
  have HE := hid hE
  have HL := hid hl
  have HEP := hid hep
  have HMB := hid hm
  have HND := hid hnod
  have HUS := hid hus
  have HG0 := hid g0
  have HG1 := hid g1
  clear hN hE hl hep hm hnod hus g0 g1
  go_enter Yba.func8, Yba.ntmps8
  go_wp2_with fail
  have hX : Blk ((w.alloc (.cells #[.int .u64 0, .int .i64 0, .pointer none] 36)).alloc (.cells #[.int .u64 (tN R), .int .i64 (tS R), .pointer none] 36)) (w.heap.size + 1) #[.int .u64 (tN R), .int .i64 (tS R), .pointer none] 36 := Blk.new' (by simp)
  refine (earliest_any (w.heap.size + 1) S R _ hX).mono ?_
  rintro e w1 ⟨rfl, hX1, fr1⟩
  have HX1 := hid hX1
  have HZ1 := hid (((Blk.new w _ _).alloc _).fr fr1 (by omega))
  have HB1 : Hid (Below w.heap.size w w1) := (((Below.refl _ w).alloc (Nat.le_refl _) _).alloc (by simp) _).trans (fr1.below (by simp; omega) (fun k h => by omega))
  have hN1 := HN.out.below HB1.out lN
  have l1 := hN1.lt
  have e30 : w1.cell? ⟨Nb, 30, none⟩ = some (.slice ea n ec) := hN1.cell 30
  clear fr1 hX1 hX r0 r1 r2 s0 s1 s2
  go_wp2
  go_loopg [29] n (fun gk v29 wr => ∃ (k : Nat) (G : Int), k ≤ n ∧ gk = n - k ∧ v29 = .int .i64 k ∧ Held w wr (SeenE R S (eps.take k)) G)
  case atStart =>
    refine ⟨0, min S R, Nat.zero_le _, rfl, rfl, ⟨?_, HX1.out, HZ1.out, HB1.out⟩⟩
    unfold SeenE
    simp
    omega
  case round =>
    obtain ⟨k, G, hk, rfl, rfl, hheld⟩ := hrel
    have H0 := hid hheld
    clear hheld e30
    by_cases hlt : k < n
    · obtain ⟨d, hd⟩ : ∃ d, eps[k]? = some d := ⟨eps[k]'(by have := HL.out; omega), List.getElem?_eq_getElem _⟩
      have hel : Es.length = n := by have := HE.out.1; simpa using this
      obtain ⟨E, hE⟩ : ∃ E, Es[k]? = some E := ⟨Es[k]'(by omega), List.getElem?_eq_getElem _⟩
      obtain ⟨gE, cE, hea0, _, _⟩ := HE.out.form (by omega)
      have hea : ea = some ⟨gE, 0, none⟩ := by simp at hea0; exact hea0.1
      subst hea
      have HE' := HE.out
      rw [hea0] at HE'
      have c0 := (H0.out.b.cell (p := ⟨gE, k, none⟩) (row_lt HE' rfl)).trans (row_cell HE' (j := k) (u := .pointer (some ⟨E, 0, none⟩)) (by rw [List.getElem?_map, hE]; rfl))
      obtain ⟨id, TR, pv, nv, wv, lv, hB, hT, hpv, hwv, hp256, hr256, hpi⟩ := HEP.out k E d hE hd
      obtain ⟨wa, wcp, hwf, _⟩ := row_form hwv
      obtain ⟨pa, pc, hpf, _⟩ := row_form hpv
      subst hwf hpf
      have HEB := hid hB
      have HTB := hid hT
      have HPV := hid hpv
      have HWV := hid hwv
      have HPI := hid hpi
      have htk : Hid (eps.take (k + 1) = eps.take k ++ [d]) := by
        show _ = _
        have hlen := HL.out
        rw [List.take_succ_eq_append_getElem (by omega)]
        congr 2
        have := List.getElem?_eq_getElem (l := eps) (i := k) (by omega)
        rw [hd] at this
        exact (Option.some.inj this).symm
      obtain ⟨b0, b1, b2, b3, b4, b5, b6, b7, b8, b9, b10, b11, bf⟩ := (hB.below H0.out.b hB.lt).cells12
      have HT0 := hid (hT.below H0.out.b hT.lt)
      clear hd hE hea0 HE' hB hT hpv hwv hpi hel
      go_wp2_with fail
      refine (timer_any TR _ _ _ _ _ _ _ _ _ _ HT0.out).mono ?_
      rintro e w2 ⟨rfl, hb2⟩
      have H2 := hid (H0.out.quiet hb2)
      clear hb2 HT0 b0 b1 b2 b3 b4 b5 b6 b7 b8 b9 b10 b11 bf c0
      go_wp2_with fail
      refine (earliest_0 _ G _ H2.out.x).mono ?_
      rintro e w3 ⟨rfl, hx3, fr3⟩
      have H3 := hid (H2.out.step hx3 fr3)
      clear hx3 fr3
      obtain ⟨b0, b1, b2, b3, b4, b5, b6, b7, b8, b9, b10, b11, bf⟩ := (HEB.out.below H3.out.b HEB.out.lt).cells12
      go_wp2_with fail
      refine (earliest_any _ d.keep _ _ H3.out.x).mono ?_
      rintro e w4 ⟨rfl, hx4, fr4⟩
      have H4 := hid (H3.out.step hx4 fr4)
      clear hx4 fr4 b0 b1 b2 b3 b4 b5 b6 b7 b8 b9 b10 b11 bf
      obtain ⟨b0, b1, b2, b3, b4, b5, b6, b7, b8, b9, b10, b11, bf⟩ := (HEB.out.below H4.out.b HEB.out.lt).cells12
      go_wp2_with fail
      refine (isZero_T d.greet _).mono ?_
      rintro e w5 ⟨he5, hb5⟩
      have H5 := hid (H4.out.quiet hb5)
      clear hb5 b0 b1 b2 b3 b4 b5 b6 b7 b8 b9 b10 b11 bf
      obtain ⟨b0, b1, b2, b3, b4, b5, b6, b7, b8, b9, b10, b11, bf⟩ := (HEB.out.below H5.out.b HEB.out.lt).cells12
      generalize hG5 : min d.keep (min 0 G) = G5 at H5
      clear hG5 H0 H2 H3 H4
      subst he5
      go_upto_if 51 with fail
      go_cut [] (fun wx => ∃ G6, Held w wx (fun c => (((SeenE R S (eps.take k) c ∨ c = 0) ∨ c = d.keep) ∨ (d.greet ≠ 0 ∧ c = d.greet))) G6)
      case first =>
        by_cases hg : d.greet = 0
        · have hdz : decide (d.greet = 0) = true := by simpa using hg
          simp only [hdz, Bool.not_true]
          go_wp2_with fail
          go_meet
          exact ⟨G5, H5.out.congr (fun c => by simp [hg])⟩
        · have hdz : decide (d.greet = 0) = false := by simpa using hg
          simp only [hdz, Bool.not_false]
          have HG := hid hg
          clear hg
          go_wp2_with fail
          refine (earliest_any _ d.greet _ _ H5.out.x).mono ?_
          rintro e w6 ⟨rfl, hx6, fr6⟩
          go_wp2_with fail
          go_meet
          exact ⟨_, (H5.out.step hx6 fr6).congr (fun c => by simp [HG.out])⟩
      case rest =>
        obtain ⟨G6, hc6⟩ := hcut
        have H6 := hid hc6
        clear hc6 b0 b1 b2 b3 b4 b5 b6 b7 b8 b9 b10 b11 bf H5
        obtain ⟨b0, b1, b2, b3, b4, b5, b6, b7, b8, b9, b10, b11, bf⟩ := (HEB.out.below H6.out.b HEB.out.lt).cells12
        go_wp2_with fail
        refine (next_any E 10 _ wcp base wa d.reps _ b10 (row_fr HWV.out (S := fun _ => False) (Fr.mono (Fr.of_below H6.out.b) (fun k h1 h2 => by omega)) (fun _ _ h => h)) rfl hr256).mono ?_
        rintro e w7 ⟨m, b, rfl, hbf, hbt, hb7⟩
        have H7 := hid (H6.out.quiet hb7)
        have HBF := hid hbf
        have HBT := hid hbt
        clear hb7 b0 b1 b2 b3 b4 b5 b6 b7 b8 b9 b10 b11 bf H6 hbf hbt
        go_upto_if 65 with fail
        go_cut [] (fun wx => ∃ G8, Held w wx (fun c => ((((SeenE R S (eps.take k) c ∨ c = 0) ∨ c = d.keep) ∨ (d.greet ≠ 0 ∧ c = d.greet)) ∨ c ∈ d.reps)) G8)
        case first =>
          cases b
          · go_wp2_with fail
            go_meet
            exact ⟨G6, (H7.out.alloc _).congr (fun c => by rw [HBF.out (by trivial)]; simp)⟩
          · go_wp2_with fail
            refine (earliest_any _ m _ _ (H7.out.alloc _).x).mono ?_
            rintro e w8 ⟨rfl, hx8, fr8⟩
            go_wp2_with fail
            go_meet
            exact ⟨_, (H7.out.alloc _).stepMin (HBT.out (by trivial)).1 (HBT.out (by trivial)).2 hx8 fr8⟩
        case rest =>
          obtain ⟨G8, hc8⟩ := hcut
          have H8 := hid hc8
          clear hc8 H7 HBF HBT
          obtain ⟨b0, b1, b2, b3, b4, b5, b6, b7, b8, b9, b10, b11, bf⟩ := (HEB.out.below H8.out.b HEB.out.lt).cells12
          have lE8 := (HEB.out.below H8.out.b HEB.out.lt).lt
          go_wp2
          clear b0 b1 b2 b3 b4 b5 b6 b7 b8 b9 b10 b11 bf lE8
          go_loopg [74] d.peers.length (fun gk2 v74 wr => ∃ (j : Nat) (G9 : Int), j ≤ d.peers.length ∧ gk2 = d.peers.length - j ∧ v74 = .int .i64 j ∧ Held w wr (fun c => (((((SeenE R S (eps.take k) c ∨ c = 0) ∨ c = d.keep) ∨ (d.greet ≠ 0 ∧ c = d.greet)) ∨ c ∈ d.reps) ∨ ∃ p ∈ d.peers.take j, c = p + 2000)) G9)
          case atStart => exact ⟨0, G8, Nat.zero_le _, rfl, rfl, H8.out.congr (fun c => by simp)⟩
          case round =>
            obtain ⟨j, G9, hj, rfl, rfl, hq⟩ := hrel
            have HQ := hid hq
            clear hq
            by_cases hlt2 : j < d.peers.length
            · obtain ⟨T, hT⟩ : ∃ T, d.peers[j]? = some T := ⟨d.peers[j]'hlt2, List.getElem?_eq_getElem _⟩
              obtain ⟨gp, cp, hpf0, _, _⟩ := HPV.out.form (by omega)
              have hpa : pa = some ⟨gp, 0, none⟩ := by simp at hpf0; exact hpf0.1
              subst hpa
              have HPV' := HPV.out
              rw [hpf0] at HPV'
              have p0 := (HQ.out.b.cell (p := ⟨gp, j * 9, none⟩) (row_lt HPV' rfl)).trans (row_cell HPV' (peerF_get d.peers j 0 T hT (by omega)))
              have p1 := (HQ.out.b.cell (p := ⟨gp, j * 9 + 1, none⟩) (row_lt HPV' rfl)).trans (row_cell HPV' (peerF_get d.peers j 1 T hT (by omega)))
              have p2 := (HQ.out.b.cell (p := ⟨gp, j * 9 + 2, none⟩) (row_lt HPV' rfl)).trans (row_cell HPV' (peerF_get d.peers j 2 T hT (by omega)))
              have p3 := (HQ.out.b.cell (p := ⟨gp, j * 9 + 3, none⟩) (row_lt HPV' rfl)).trans (row_cell HPV' (peerF_get d.peers j 3 T hT (by omega)))
              have p4 := (HQ.out.b.cell (p := ⟨gp, j * 9 + 4, none⟩) (row_lt HPV' rfl)).trans (row_cell HPV' (peerF_get d.peers j 4 T hT (by omega)))
              have p5 := (HQ.out.b.cell (p := ⟨gp, j * 9 + 5, none⟩) (row_lt HPV' rfl)).trans (row_cell HPV' (peerF_get d.peers j 5 T hT (by omega)))
              have p6 := (HQ.out.b.cell (p := ⟨gp, j * 9 + 6, none⟩) (row_lt HPV' rfl)).trans (row_cell HPV' (peerF_get d.peers j 6 T hT (by omega)))
              have p7 := (HQ.out.b.cell (p := ⟨gp, j * 9 + 7, none⟩) (row_lt HPV' rfl)).trans (row_cell HPV' (peerF_get d.peers j 7 T hT (by omega)))
              have p8 := (HQ.out.b.cell (p := ⟨gp, j * 9 + 8, none⟩) (row_lt HPV' rfl)).trans (row_cell HPV' (peerF_get d.peers j 8 T hT (by omega)))
              have hNq := HN.out.below HQ.out.b lN
              have lNq := hNq.lt
              have f0 : wr.cell? ⟨Nb, 0, none⟩ = some (.int .i64 0) := hNq.cell 0
              have f1 : wr.cell? ⟨Nb, 1, none⟩ = some (.int .i64 0) := hNq.cell 1
              have f2 : wr.cell? ⟨Nb, 2, none⟩ = some (.int .i64 0) := hNq.cell 2
              have f3 : wr.cell? ⟨Nb, 3, none⟩ = some (.int .i64 1000) := hNq.cell 3
              have f4 : wr.cell? ⟨Nb, 4, none⟩ = some (.float .f64 4611686018427387904) := hNq.cell 4
              have f5 : wr.cell? ⟨Nb, 5, none⟩ = some (.int .i64 g) := hNq.cell 5
              have f6 : wr.cell? ⟨Nb, 6, none⟩ = some (.int .i64 0) := hNq.cell 6
              have f7 : wr.cell? ⟨Nb, 7, none⟩ = some (.int .i64 0) := hNq.cell 7
              have f8 : wr.cell? ⟨Nb, 8, none⟩ = some (.int .i64 0) := hNq.cell 8
              have f9 : wr.cell? ⟨Nb, 9, none⟩ = some (.int .i64 0) := hNq.cell 9
              have f10 : wr.cell? ⟨Nb, 10, none⟩ = some (.int .i64 0) := hNq.cell 10
              have f11 : wr.cell? ⟨Nb, 11, none⟩ = some (.int .i64 0) := hNq.cell 11
              have f12 : wr.cell? ⟨Nb, 12, none⟩ = some (.int .i64 0) := hNq.cell 12
              have f13 : wr.cell? ⟨Nb, 13, none⟩ = some (.int .i64 0) := hNq.cell 13
              have HTI := hid (HPI.out T (List.mem_of_getElem? hT))
              have HTK : Hid (d.peers.take (j + 1) = d.peers.take j ++ [T]) := by
                show _ = _
                rw [List.take_succ_eq_append_getElem hlt2]
                congr 2
                have := List.getElem?_eq_getElem (l := d.peers) (i := j) hlt2
                rw [hT] at this
                exact (Option.some.inj this).symm
              clear hT hpf0 HPV' hNq
              go_wp2
              go_region_with (first
                | (go_at_call 4
                   refine (peerTimeout_any g _).mono ?_
                   rintro e wa1 ⟨rfl, hba⟩
                   have HA := hid ((HQ.out.alloc _).drew.quiet hba)
                   have hLb := ((Blk.new wr #[.int .u32 0, .int .u32 0, .int .u32 0, .int .u64 0, .int .u64 0, .pointer none, .int .u64 (tN T), .int .i64 (tS T), .pointer none] 72).drew).below hba (by simp)
                   obtain ⟨q0, q1, q2, q3, q4, q5, q6, q7, q8, qf⟩ := hLb.cells9
                   clear hba)
                | (go_at_call 7
                   refine (add_T T 2000 HTI.out.mild _ (by omega) (by omega)).mono ?_
                   rintro e wb1 ⟨rfl, hbb⟩
                   have HBB := hid (HA.out.quiet hbb)
                   clear hbb)
                | (go_at_call 15
                   refine (earliest_any _ (T + 2000) _ _ HBB.out.x).mono ?_
                   rintro e wc1 ⟨rfl, hxc, frc⟩
                   have HC := hid (HBB.out.step hxc frc)
                   clear hxc frc))
              all_goals (try go_wp2)
              all_goals
                go_roundg (d.peers.length - (j + 1))
                case measure => omega
                case rel => exact ⟨j + 1, _, by omega, rfl, by go_num, HC.out.congr (fun c => by rw [HTK.out]; simp [or_assoc])⟩
            · have hje : j = d.peers.length := by omega
              subst hje
              go_wp2
              go_roundg (n - (k + 1))
              case measure => omega
              case rel =>
                refine ⟨k + 1, G9, by omega, rfl, by go_num, HQ.out.congr (fun c => ?_)⟩
                rw [htk.out]
                unfold SeenE EpSet
                simp [or_and_right, exists_or, or_assoc]
    · have hke : k = n := by omega
      subst hke
      have HS0 : Hid (Held w wr (SeenE R S eps) G) := by
        have := H0.out
        rw [List.take_of_length_le (by have := HL.out; omega)] at this
        exact this
      have hmr := HMB.out.kept (row := none) ⟨H0.out.b.os, H0.out.b.tape, H0.out.b.output, H0.out.b.size, fun i hi _ => H0.out.b.block i hi⟩ (by simp)
      have hNq := HN.out.below H0.out.b lN
      have lNq := hNq.lt
      have e29 : wr.cell? ⟨Nb, 29, none⟩ = some (.map (some mb)) := hNq.cell 29
      clear H0 hNq
      go_wp2_with (first
        | (at_range; refine wpList_range_own _ rfl _ 74 rfl 68 _ (Maps.int_keyed Yba.underlying68) Yba.underlying74 ptrElem mb nn D rfl hmr ?_; intro w0 hrg0 hg0 hs0)
        | go_in)
      go_frame
      have HR0 : Hid (Held w w0 (fun c => SeenE R S eps c ∨ UnS us g (Maps.has D) c) G ∧ w0.ranges Yba.prog 68 ptrElem mb wr.heap.size nn D (Maps.has D) (Maps.size D)) :=
        ⟨(HS0.out.quiet ⟨hg0.os, hg0.tape, hg0.output, hg0.size, fun i hi => hg0.block i hi (by simp)⟩).congr (fun c => by simp [UnS_start HND.out g c]), hrg0⟩
      have hsz := HS0.out.size
      generalize wr.heap.size = r at HR0 hsz
      clear hrg0 hg0 hs0 hmr e29 lNq
      go_loopg [95] (Maps.size D) (fun cnt _ wr => ∃ (left : Lit → Bool) (G : Int), wr.ranges Yba.prog 68 ptrElem mb r nn D left cnt ∧ Held w wr (fun c => SeenE R S eps c ∨ UnS us g left c) G)
      case atStart => exact ⟨_, G, HR0.out.2, HR0.out.1⟩
      case round =>
        obtain ⟨left, G1, hrg, hhd⟩ := hrel
        have HH := hid hhd
        clear hhd HR0 HS0
        go_wp2_with (first
          | (at_next; refine wpList_next_ranges _ rfl _ rfl 68 (Maps.int_keyed Yba.underlying68) ptrElem (Value.int .u32) (fun b : Nat => Value.pointer (some ⟨b, 0, none⟩)) (fun key kl hkey => by obtain ⟨x, rfl, _⟩ := Maps.keyOf_int_inv Yba.underlying68 hkey; exact ⟨x, rfl⟩) (fun v y hv => ptrElem_inv hv) mb r nn D left _ rfl hrg ?_ ?_)
          | go_in)
        · intro _ hl0
          have HE1 : Hid (∀ kl, left kl = false) := hl0
          clear hl0 hrg
          obtain ⟨x0, x1, x2, xf⟩ := HH.out.x.cells3
          obtain ⟨z0, z1, z2, zf⟩ := HH.out.z.cells3
          go_wp2
          have hZ := HH.out.z.sets3 (.int .u64 (tN G1)) (.int .i64 (tS G1)) (.pointer none)
          have hbz : Below w.heap.size w (((wr.setCell ⟨w.heap.size, 0, none⟩ (.int .u64 (tN G1))).setCell ⟨w.heap.size, 1, none⟩ (.int .i64 (tS G1))).setCell ⟨w.heap.size, 2, none⟩ (.pointer none)) := by
            have hbb := HH.out.b
            go_grown
          generalize (((wr.setCell ⟨w.heap.size, 0, none⟩ (.int .u64 (tN G1))).setCell ⟨w.heap.size, 1, none⟩ (.int .i64 (tS G1))).setCell ⟨w.heap.size, 2, none⟩ (.pointer none)) = W at hZ hbz ⊢
          obtain ⟨y0, y1, y2, yf⟩ := hZ.cells3
          refine bodyPost_ret (v := .agg #[.int .u64 (tN G1), .int .i64 (tS G1), .pointer none]) (by simp [results, Yba.results8, go_sem, y0, y1, y2]) rfl ⟨G1, rfl, ?_, hbz⟩
          exact IsMin.congr (S := fun c => SeenE R S eps c ∨ UnS us g left c) HH.out.min (fun c => by rw [UnS_end HE1.out])
        · intro x c kl yd yp w1 cnt1 hkey hlx hv hat hrg1 hlt hg1 hs1 hen
          rw [ptrElem_mk] at hv
          cases hv
          obtain ⟨i, b, u, hiu, rfl, hcb, hrec⟩ := HND.out.at_ kl _ hat
          obtain rfl : c = b := by simp at hcb; omega
          have H1 := hid (HH.out.row hg1 hsz)
          have HRG := hid hrg1
          have HLT := hid hlt
          have HIU := hid hiu
          have HREC := hid (hrec)
          have lc : c < w.heap.size := World.block_lt_of_cell? _ _ hrec.1
          have k0 := (H1.out.b.cell (p := ⟨c, 15, none⟩) lc).trans hrec.1
          have k1 := (H1.out.b.cell (p := ⟨c, 16, none⟩) lc).trans hrec.2.1
          have k2 := (H1.out.b.cell (p := ⟨c, 17, none⟩) lc).trans hrec.2.2
          have HUI := hid (HUS.out u (List.mem_of_getElem? hiu))
          clear hkey hlx hat hrg1 hlt hg1 hs1 hcb hiu hrec hrg HH
          go_wp2_with fail
          refine (isZero_T u _).mono ?_
          rintro e w2 ⟨rfl, hb2⟩
          have H2 := hid (H1.out.quiet hb2)
          have HR2 := hid (HRG.out.kept (below_row hb2) (by simp) (by simp))
          clear hb2 k0 k1 k2 hen H1 HRG
          have hNq := HN.out.below H2.out.b lN
          have lNq := hNq.lt
          have e5 : w2.cell? ⟨Nb, 5, none⟩ = some (.int .i64 g) := hNq.cell 5
          have k0 := (H2.out.b.cell (p := ⟨c, 15, none⟩) lc).trans HREC.out.1
          have k1 := (H2.out.b.cell (p := ⟨c, 16, none⟩) lc).trans HREC.out.2.1
          have k2 := (H2.out.b.cell (p := ⟨c, 17, none⟩) lc).trans HREC.out.2.2
          have lcq : c < w2.heap.size := Nat.lt_of_lt_of_le lc H2.out.b.size
          clear hNq
          by_cases hu : u = 0
          · have hdz : decide (u = 0) = true := by simpa using hu
            simp only [hdz]
            go_wp2
            go_roundg cnt1
            case measure => exact HLT.out
            case rel => exact ⟨_, G1, HR2.out, H2.out.congr (fun c => by rw [UnS_step HIU.out]; simp [hu])⟩
          · have hdz : decide (u = 0) = false := by simpa using hu
            simp only [hdz]
            have HU := hid hu
            clear hu hdz
            go_wp2
            go_region_with (first
              | (go_at_call 7
                 refine (add_T u g HUI.out.mild _ HG0.out HG1.out).mono ?_
                 rintro e wb1 ⟨rfl, hbb⟩
                 have HBB := hid (H2.out.drew.quiet hbb)
                 have HRB := hid ((ranges_drew HR2.out).kept (below_row hbb) (by simp) (by simp))
                 clear hbb)
              | (go_at_call 15
                 refine (earliest_any _ (u + g) _ _ HBB.out.x).mono ?_
                 rintro e wc1 ⟨rfl, hxc, frc⟩
                 have HC := hid (HBB.out.step hxc frc)
                 have HRC := hid (HRB.out.kept frc.to_row (by intro he; cases he; exact absurd HMB.out.lt (by omega)) (by intro he; cases he; omega))
                 clear hxc frc))
            all_goals (try go_wp2)
            all_goals
              go_roundg cnt1
              case measure => exact HLT.out
              case rel => exact ⟨_, _, HRC.out, HC.out.congr (fun c => by rw [UnS_step HIU.out]; simp [HU.out, or_assoc])⟩
end Go.Proofs.Ybulkawpe
