import Derived.Test.YbulkawpeR17
import Derived.Test.YbulkawpeR46
namespace Go.Proofs.Ybulkawpe
open Go.RowKit
set_option linter.unusedVariables false
set_option maxRecDepth 100000
set_option maxHeartbeats 40000000 in
theorem law_any (R S g : Int) (ea ua : Option Addr) (ec uc : Nat) (eps : List EpD) (us : List Int) (w : World) (hR : I64 R) (hS : I64 S) (hg : -2147483648 ≤ g ∧ g ≤ 2147483647)
    (hlen : eps.length ≤ maxLen) (hE : EpsArg w ea eps) (hU : ArgInts w (.slice ua us.length uc) us) :
    Calls Yba.prog 3 #[.int .i64 R, .int .i64 S, .slice ea eps.length ec, .slice ua us.length uc, .int .i32 g] w fun e w' => e = .returned (.bool true) ∧ Below w.heap.size w w' := by
  have HE := hid hE
  have HU := hid hU
  have HR := hid hR
  have HS := hid hS
  have HG := hid hg
  have hul : us.length ≤ maxLen := by obtain ⟨_, _, _, h, _⟩ := hU; exact h
  unfold maxLen at hlen hul
  clear hE hU hR hS hg
  generalize hn : eps.length = n at hlen
  generalize hm : us.length = m at hul
  have HN := hid hn
  have HM := hid hm
  clear hn hm
  go_enter Yba.func3, Yba.ntmps3
  by_cases h1 : 256 < n
  · have hd : decide ((256 : Int) < (n : Int)) = true := by simp; omega
    go_wp2
    go_ret
    exact ⟨rfl, by go_grown⟩
  by_cases h2 : 256 < m
  · have hd : decide ((256 : Int) < (n : Int)) = false := by simp; omega
    have hd : decide ((256 : Int) < (m : Int)) = true := by simp; omega
    go_wp2
    go_ret
    exact ⟨rfl, by go_grown⟩
  have hd1 : decide ((256 : Int) < (n : Int)) = false := by simp; omega
  have hd2 : decide ((256 : Int) < (m : Int)) = false := by simp; omega
  go_wp2
  go_loopg [44] n (fun gk v44 wr => ∃ (k : Nat), k ≤ n ∧ gk = n - k ∧ v44 = .int .i64 k ∧ w = wr ∧ (∀ d ∈ eps.take k, d.reps.length ≤ 256 ∧ d.peers.length ≤ 256))
  case atStart => exact ⟨0, Nat.zero_le _, rfl, rfl, rfl, by simp⟩
  case round =>
    obtain ⟨k, hk, rfl, rfl, rfl, hall⟩ := hrel
    have HA := hid hall
    clear hall
    by_cases hlt : k < n
    · obtain ⟨d, hd⟩ : ∃ d, eps[k]? = some d := ⟨eps[k]'(by have := HN.out; omega), List.getElem?_eq_getElem _⟩
      obtain ⟨eb, eo, ra, rc, pa, pc, hea, c0, c1, c2, c3, _⟩ := HE.out k d hd
      subst hea
      have HTK := hid (take_more hd)
      clear hd
      by_cases h3 : 256 < d.reps.length
      · have hd3 : decide ((256 : Int) < (d.reps.length : Int)) = true := by simp; omega
        go_wp2
        go_ret
        exact ⟨rfl, by go_grown⟩
      by_cases h4 : 256 < d.peers.length
      · have hd3 : decide ((256 : Int) < (d.reps.length : Int)) = false := by simp; omega
        have hd4 : decide ((256 : Int) < (d.peers.length : Int)) = true := by simp; omega
        go_wp2
        go_ret
        exact ⟨rfl, by go_grown⟩
      have hd3 : decide ((256 : Int) < (d.reps.length : Int)) = false := by simp; omega
      have hd4 : decide ((256 : Int) < (d.peers.length : Int)) = false := by simp; omega
      go_wp2
      go_roundg (n - (k + 1))
      case measure => omega
      case rel =>
        refine ⟨k + 1, by omega, rfl, by go_num, rfl, ?_⟩
        rw [HTK.out]
        intro d' hd'
        rcases List.mem_append.1 hd' with h | h
        · exact HA.out d' h
        · simp at h; subst h; omega
    · have hke : n = k := by omega
      subst hke
      have HA' : Hid (∀ d ∈ eps, d.reps.length ≤ 256 ∧ d.peers.length ≤ 256) := by
        have := HA.out
        rw [List.take_of_length_le (by have := HN.out; omega)] at this
        exact this
      clear HA
      have hg0 := HG.out.1
      have hg1 := HG.out.2
      have hsf := store_two
      go_wp2_with fail
      clear hsf
      refine (peerTimeout_any g _).mono ?_
      rintro e w1 ⟨rfl, hb1⟩
      have HP1 := hid ((Blk.new w #[.int .i64 0, .int .i64 0, .int .i64 0, .int .i64 1000, .float .f64 4611686018427387904, .int .i64 g, .int .i64 0, .int .i64 0, .int .i64 0, .int .i64 0, .int .i64 0, .int .i64 0, .int .i64 0, .int .i64 0] 31).below hb1 (by simp))
      have HB1 := hid (show Below w.heap.size w w1 from ((Below.refl _ w).alloc (Nat.le_refl _) _).trans (hb1.mono (by simp)))
      clear hb1
      go_wp2_with fail
      refine (at_any R _ HR.out.1 HR.out.2).mono ?_
      rintro e w2 ⟨rfl, hb2⟩
      have HP2 := hid (HP1.out.below hb2 HP1.out.lt)
      have HB2 := hid (HB1.out.trans (hb2.mono HB1.out.size))
      clear hb2 HP1 HB1
      go_wp2_with fail
      refine (at_any S _ HS.out.1 HS.out.2).mono ?_
      rintro e w3 ⟨rfl, hb3⟩
      have HP3 := hid (HP2.out.below hb3 HP2.out.lt)
      have HB3 := hid (HB2.out.trans (hb3.mono HB2.out.size))
      clear hb3 HP2 HB2
      go_wp2
      have HL2 : Hid (Lw2 w (w3.alloc (.cells #[.int .u64 (tN R), .int .i64 (tS R), .pointer none, .int .u64 (tN S), .int .i64 (tS S), .pointer none] 36)) R S g eps 0 (.slice (some ⟨w3.heap.size, 0, none⟩) 2 2) (.slice none 0 0) [R, S] []) := by
        refine ⟨row_new (Blk.new w3 _ _) HB3.out.size (by unfold maxLen; omega) rfl, by simp, fun c => by simp [SeenE], ⟨rfl, Or.inl ⟨rfl, rfl⟩⟩, fun i E d h => by simp at h, HP3.out.alloc _, HB3.out.alloc HB3.out.size _⟩
      clear HP3 HB3
      generalize (w3.alloc (.cells #[.int .u64 (tN R), .int .i64 (tS R), .pointer none, .int .u64 (tN S), .int .i64 (tS S), .pointer none] 36)) = w4 at HL2 ⊢
      go_loopg [14, 15, 76] n (fun gk v14 v15 v76 wr => ∃ (k : Nat) (L : List Int) (Es : List Nat), k ≤ n ∧ gk = n - k ∧ v76 = .int .i64 k ∧ Lw2 w wr R S g eps k v14 v15 L Es)
      case atStart => exact ⟨0, [R, S], [], Nat.zero_le _, rfl, rfl, HL2.out⟩
      case round =>
        obtain ⟨k, L, Es, hk, rfl, rfl, hlw⟩ := hrel
        obtain ⟨cv0, hcv0⟩ : ∃ c, c = u14 := ⟨_, rfl⟩
        subst hcv0
        obtain ⟨ev0, hev0⟩ : ∃ c, c = u15 := ⟨_, rfl⟩
        subst hev0
        obtain ⟨wo, hwo⟩ : ∃ x, x = wr := ⟨_, rfl⟩
        subst hwo
        have HW := hid hlw
        clear hlw HL2
        by_cases hlt : k < n
        · have hlt2 := hlt
          obtain ⟨d, hd⟩ : ∃ d, eps[k]? = some d := ⟨eps[k]'(by have := HN.out; omega), List.getElem?_eq_getElem _⟩
          obtain ⟨eb, eo, ra, rc, pa, pc, hea, c0, c1, c2, c3, hai, hap, hik, hig⟩ := HE.out k d hd
          subst hea
          have le : eb < w.heap.size := World.block_lt_of_cell? _ _ c0
          have HTK := hid (take_more hd)
          have HRI := hid hai
          have HPI := hid hap
          have HIK := hid hik
          have HIG := hid hig
          have HDD := hid hd
          have d0 := (HW.out.b.cell (p := ⟨eb, eo + k * 4, none⟩) le).trans c0
          have d1 := (HW.out.b.cell (p := ⟨eb, eo + k * 4 + 1, none⟩) le).trans c1
          have d2 := (HW.out.b.cell (p := ⟨eb, eo + k * 4 + 2, none⟩) le).trans c2
          have d3 := (HW.out.b.cell (p := ⟨eb, eo + k * 4 + 3, none⟩) le).trans c3
          clear hd c0 c1 c2 c3 hai hap hik hig
          go_upto_region 17 with fail
          go_cut [18] (fun v18 wx => ∃ E TR id nv lv, v18 = .pointer (some ⟨E, 0, none⟩) ∧ wo.heap.size ≤ E ∧ wo.heap.size ≤ TR ∧ Blk wx E #[.int .u32 id, .pointer (some ⟨TR, 0, none⟩), .int .u64 (tN d.greet), .int .i64 (tS d.greet), .pointer none, .int .u64 (tN d.keep), .int .i64 (tS d.keep), .pointer none, .slice none 0 0, nv, .slice none 0 0, lv] 53 ∧
            Blk wx TR #[.int .i64 0, .int .i64 0, .int .i64 0, .pointer none, .int .i64 0, .int .u64 0, .int .i64 0, .pointer none, .int .u64 0, .int .i64 0, .pointer none, .int .i64 0, .bool false] 46 ∧ Blk wx wo.heap.size #[.int .i64 d.keep, .int .i64 d.greet, .slice ra d.reps.length rc, .slice pa d.peers.length pc] 25 ∧ Below wo.heap.size wo wx)
          case first =>
            refine r17 (by kernel_rfl) HIK HIG (by omega) ?_
            intro v18 v83 v84 v85 v86 v87 v88 v89 v90 v91 v92 v93 v94 v95 wx hrel
            dsimp only
            (try go_wp2_with fail)
            go_meet
            exact hrel
          case rest =>
            obtain ⟨E, TR, id, nv, lv, rfl, hE1, hT1, hEb, hTb, hBb, hlow⟩ := hcut
            have H0 : Hid (Rd w wo cv0 d ra pa rc pc E TR id nv lv wc cv0 (.slice none 0 0) (.slice none 0 0) L 0 0) :=
              ⟨(Cand.start HW.out.row).quiet hlow, hEb, hTb, hBb, ⟨rfl, Or.inl ⟨rfl, rfl⟩⟩, ⟨rfl, Or.inl ⟨rfl, rfl⟩⟩, (by simp [Value.ownBlock]), (by simp [Value.ownBlock]), hE1, hT1⟩
            clear hEb hTb hBb hlow d0 d1 d2 d3 hE1 hT1
            have hL := HW.out.len
            have hszc : w.heap.size ≤ wc.heap.size := (H0.out.low HW.out.b HW.out.row).size
            obtain ⟨b0, b1, b2, b3, b4, b5, b6, b7, b8, b9, b10, b11, bf⟩ := H0.out.e.cells12
            have lE := H0.out.e.lt
            go_wp2_with (at_builtin; refine wpList_app2 rfl (.tmp 96) (.tmp 102) 38 rfl 36 _ 3 24 Yba.underlying38 info36 rfl (by decide) w.heap.size wc.heap.size cv0 L.length (timeF L) #[.int .u64 0, .int .i64 0, .pointer none, .int .u64 (tN d.keep), .int .i64 (tS d.keep), .pointer none] rfl rfl (H0.out.alloc _).cd.row (Blk.new wc _ _) rfl (by simp [Value.oneCell']) (by omega) (by decide) (by simp; omega) ?_
                         intro g14 cap14 w5 r1 r2 r3 r4
                         have H5 : Hid (Rd w wo cv0 d ra pa rc pc E TR id nv lv w5 (.slice (some ⟨g14, 0, none⟩) (L.length + 2) cap14) (.slice none 0 0) (.slice none 0 0) (L ++ [0, d.keep]) 0 0) :=
                           (H0.out.alloc _).app r1 (by simp) (by simp [timeF, timeC, tN_zero, tS_zero]) r2 r3
                         clear r1 r2 r3 r4 H0 b0 b1 b2 b3 b4 b5 b6 b7 b8 b9 b10 b11 bf lE hszc
                         obtain ⟨b0, b1, b2, b3, b4, b5, b6, b7, b8, b9, b10, b11, bf⟩ := H5.out.e.cells12
                         have lE := H5.out.e.lt)
            refine (isZero_T d.greet _).mono ?_
            rintro e w6 ⟨rfl, hb6⟩
            have H6 := hid (H5.out.quiet hb6)
            clear hb6 b0 b1 b2 b3 b4 b5 b6 b7 b8 b9 b10 b11 bf lE H5
            obtain ⟨b0, b1, b2, b3, b4, b5, b6, b7, b8, b9, b10, b11, bf⟩ := H6.out.e.cells12
            have lE := H6.out.e.lt
            go_upto_if 109 with fail
            go_cut [14] (fun v14 wx => ∃ L2, Rd w wo cv0 d ra pa rc pc E TR id nv lv wx v14 (.slice none 0 0) (.slice none 0 0) L2 0 0 ∧ L2.length ≤ L.length + 3 ∧ ∀ c, c ∈ L2 ↔ c ∈ L ∨ c = 0 ∨ c = d.keep ∨ (d.greet ≠ 0 ∧ c = d.greet))
            case first =>
              by_cases hg : d.greet = 0
              · have hdz : decide (d.greet = 0) = true := by simpa using hg
                simp only [hdz, Bool.not_true]
                go_wp2_with fail
                go_meet
                exact ⟨_, H6.out, by simp, fun c => by simp [hg]⟩
              · have hdz : decide (d.greet = 0) = false := by simpa using hg
                simp only [hdz, Bool.not_false]
                have HGT := hid hg
                clear hg hdz
                have hszc : w.heap.size ≤ w6.heap.size := (H6.out.low HW.out.b HW.out.row).size
                go_wp2_with (at_builtin; refine wpList_app1 rfl (.tmp 110) (.tmp 115) 38 rfl 36 _ 3 24 Yba.underlying38 info36 rfl (by decide) w.heap.size w6.heap.size (.slice (some ⟨g14, 0, none⟩) (L.length + 2) cap14) (L.length + 2) (timeF (L ++ [0, d.keep])) #[.int .u64 (tN d.greet), .int .i64 (tS d.greet), .pointer none] rfl rfl (by simpa using (H6.out.alloc _).cd.row) (Blk.new w6 _ _) rfl (by simp [Value.oneCell']) (by omega) (by decide) (by simp; omega) ?_
                             intro g15 cap15 w7 r1 r2 r3 r4
                             have H7 := hid ((H6.out.alloc _).app (M := [d.greet]) r1 (by simp) (by simp [timeF, timeC]) r2 r3)
                             clear r1 r2 r3 r4)
                go_meet
                exact ⟨_, by simpa using H7.out, by simp, fun c => by simp [HGT.out]⟩
            case rest =>
              obtain ⟨L2, hrd, hl2, hm2⟩ := hcut
              have H8 := hid hrd
              have HM2 := hid hm2
              clear hrd hm2 H6 b0 b1 b2 b3 b4 b5 b6 b7 b8 b9 b10 b11 bf lE
              obtain ⟨x0, x1, x2, x3, xf⟩ := H8.out.b.cells4
              go_wp2
              clear x0 x1 x2 x3 xf
              have hr256 : d.reps.length ≤ 256 := (HA'.out d (List.mem_of_getElem? HDD.out)).1
              have hp256 : d.peers.length ≤ 256 := (HA'.out d (List.mem_of_getElem? HDD.out)).2
              go_loopg [14, 120] d.reps.length (fun gk v14 v120 wx => ∃ (j : Nat) (L3 : List Int) (wv : Value), j ≤ d.reps.length ∧ gk = d.reps.length - j ∧ v120 = .int .i64 j ∧ Rd w wo cv0 d ra pa rc pc E TR id nv lv wx v14 (.slice none 0 0) wv L3 j 0 ∧ L3.length ≤ L.length + 3 + j ∧ ∀ c, c ∈ L3 ↔ c ∈ L2 ∨ c ∈ d.reps.take j)
              case atStart => exact ⟨0, L2, _, Nat.zero_le _, rfl, rfl, H8.out, by omega, by simp⟩
              case round =>
                obtain ⟨j, L3, wv, hj, rfl, rfl, hrd, hl3, hm3⟩ := hrel
                have HQ := hid hrd
                have HM3 := hid hm3
                clear hrd hm3 H8
                by_cases hlt3 : j < d.reps.length
                · obtain ⟨T, hT⟩ : ∃ T, d.reps[j]? = some T := ⟨d.reps[j]'hlt3, List.getElem?_eq_getElem _⟩
                  obtain ⟨ra', rc', hsl, _, hi64, hcl⟩ := HRI.out
                  obtain ⟨rb, ro, hra', hc⟩ := hcl j T hT
                  obtain rfl : ra = ra' := by simp at hsl; exact hsl.1
                  subst hra'
                  have HT := hid hT
                  have hTi := hid (hi64 T (List.mem_of_getElem? hT))
                  have lr : rb < w.heap.size := World.block_lt_of_cell? _ _ hc
                  have hlow := HQ.out.low HW.out.b HW.out.row
                  have cT := (hlow.cell (p := ⟨rb, ro + j, none⟩) lr).trans hc
                  clear hsl hi64 hcl hc hT
                  go_wp2_with fail
                  refine (at_any T _ hTi.out.1 hTi.out.2).mono ?_
                  rintro e w6b ⟨rfl, hb6⟩
                  have H6 := hid (HQ.out.quiet hb6)
                  clear hb6 cT hlow
                  go_upto_region 25 with fail
                  go_cut [] (fun wx => ∃ wv2, Rd w wo cv0 d (some ⟨rb, ro, none⟩) pa rc pc E TR id nv lv wx u14 (.slice none 0 0) wv2 L3 (j + 1) 0 ∧ Blk wx w6b.heap.size #[.int .u64 (tN T), .int .i64 (tS T), .pointer none] 36)
                  case first =>
                    obtain ⟨b0, b1, b2, b3, b4, b5, b6, b7, b8, b9, b10, b11, bf⟩ := H6.out.e.cells12
                    have lE := H6.out.e.lt
                    have hsz6 := (H6.out.low HW.out.b HW.out.row).size
                    have HWN : Hid (wv.ownBlock ≠ some w6b.heap.size) := fun h => absurd (row_lt H6.out.wo h) (Nat.lt_irrefl _)
                    have HEN : Hid (wv.ownBlock ≠ some E) := row_ne H6.out.wo H6.out.e (by decide)
                    have HBk : Hid (∀ o, Blk ((w6b.alloc (.cells #[.int .u64 (tN T), .int .i64 (tS T), .pointer none] 36)).alloc o).drew w6b.heap.size #[.int .u64 (tN T), .int .i64 (tS T), .pointer none] 36) := fun o => Blk.drew ((Blk.new w6b _ _).alloc o)
                    have HEk : Hid (∀ o o', Blk ((w6b.alloc o).alloc o').drew E _ 53) := fun o o' => Blk.drew ((H6.out.e.alloc o).alloc o')
                    go_region_law (first
                      | (refine step_app1 rfl (.tmp 131) (.tmp 134) 49 rfl 67 _ 9 88 Yba.underlying49 info67 rfl (by decide) w.heap.size (w6b.heap.size + 1) wv j (repF (d.reps.take j)) #[.int .u64 0, .int .u64 0, .pointer none, .int .u16 0, .slice none 0 0, .bool false, .int .u64 (tN T), .int .i64 (tS T), .pointer none] rfl rfl (by exact (((H6.out.alloc _).alloc _).drew).wo) (by exact Blk.drew (Blk.new' (by simp))) rfl (by simp [Value.oneCell']) (by omega) (by decide) (by simp; omega) ?_
                         intro g7 cap7 w7 r1 r2 r3 r4
                         have H7 : Hid (Rd w wo cv0 d (some ⟨rb, ro, none⟩) pa rc pc E TR id nv lv (w7.setCell ⟨E, 10, none⟩ (.slice (some ⟨g7, 0, none⟩) (j + 1) cap7)) u14 (.slice none 0 0) (.slice (some ⟨g7, 0, none⟩) (j + 1) cap7) L3 (j + 1) 0) := Rd.wapp (((H6.out.alloc _).alloc _).drew) HT.out r1 r2 r3
                         have HB7 : Hid (Blk w7 w6b.heap.size #[.int .u64 (tN T), .int .i64 (tS T), .pointer none] 36) := Blk.fr (HBk.out _) r2 HWN.out
                         have hE7 := Blk.fr (HEk.out _ _) r2 HEN.out
                         clear r1 r2 r3 r4
                         obtain ⟨d0, d1, d2, d3, d4, d5, d6, d7, d8, d9, d10, d11, df⟩ := hE7.cells12
                         have lE7 := hE7.lt))
                    all_goals (try go_wp2_with fail)
                    all_goals go_meet
                    all_goals exact ⟨_, H7.out, HB7.out.set_other (by have := (hE7.ne HB7.out (by decide)); simp; omega) _⟩
                  case rest =>
                    obtain ⟨wv2, hrd2, hb21⟩ := hcut
                    have H8 := hid hrd2
                    have hsz8 := (hrd2.low HW.out.b HW.out.row).size
                    obtain ⟨y0, y1, y2, yf⟩ := hb21.cells3
                    have ly := hb21.lt
                    clear hrd2 hb21
                    go_wp2_with (at_builtin; refine wpList_app1 rfl (.tmp 139) (.tmp 141) 38 rfl 36 _ 3 24 Yba.underlying38 info36 rfl (by decide) w.heap.size wc.heap.size u14 L3.length (timeF L3) #[.int .u64 (tN T), .int .i64 (tS T), .pointer none] rfl rfl (by exact (H8.out.alloc _).cd.row) (Blk.new wc _ _) rfl (by simp [Value.oneCell']) (by omega) (by decide) (by simp; omega) ?_
                                 intro g9 cap9 w9 r1 r2 r3 r4
                                 have H9 : Hid (Rd w wo cv0 d (some ⟨rb, ro, none⟩) pa rc pc E TR id nv lv w9 (.slice (some ⟨g9, 0, none⟩) (L3.length + 1) cap9) (.slice none 0 0) wv2 (L3 ++ [T]) (j + 1) 0) := (H8.out.alloc _).app r1 (by simp) (by simp [timeF, timeC]) r2 r3
                                 clear r1 r2 r3 r4 y0 y1 y2 yf)
                    go_roundg (d.reps.length - (j + 1))
                    case measure => omega
                    case rel =>
                      refine ⟨j + 1, L3 ++ [T], wv2, by omega, rfl, by go_num, H9.out, by simp; omega, fun c => ?_⟩
                      rw [take_more HT.out]
                      simp only [List.mem_append, List.mem_singleton, HM3.out c, or_assoc]
                · have hje : j = d.reps.length := by omega
                  subst hje
                  obtain ⟨x0, x1, x2, x3, xf⟩ := HQ.out.b.cells4
                  go_wp2
                  clear x0 x1 x2 x3 xf
                  have HM4 : Hid (∀ c, c ∈ L3 ↔ c ∈ L2 ∨ c ∈ d.reps) := by have := HM3.out; rwa [List.take_length] at this
                  obtain ⟨L4, hL4⟩ : ∃ x, x = L3 := ⟨_, rfl⟩
                  go_loopg [14, 147] d.peers.length (fun gk v14 v147 wx => ∃ (j : Nat) (L5 : List Int) (pv : Value), j ≤ d.peers.length ∧ gk = d.peers.length - j ∧ v147 = .int .i64 j ∧ Rd w wo cv0 d ra pa rc pc E TR id nv lv wx v14 pv wv L5 d.reps.length j ∧ L5.length ≤ L.length + 3 + d.reps.length + j ∧ ∀ c, c ∈ L5 ↔ c ∈ L3 ∨ ∃ p ∈ d.peers.take j, c = p + 2000)
                  case atStart => exact ⟨0, L3, _, Nat.zero_le _, rfl, rfl, HQ.out, by omega, by simp⟩
                  case round =>
                    obtain ⟨j, L5, pv, hj, rfl, rfl, hrd, hl5, hm5⟩ := hrel
                    have HQ5 := hid hrd
                    have HM5 := hid hm5
                    clear hrd hm5 HQ
                    by_cases hlt4 : j < d.peers.length
                    · obtain ⟨T, hT⟩ : ∃ T, d.peers[j]? = some T := ⟨d.peers[j]'hlt4, List.getElem?_eq_getElem _⟩
                      obtain ⟨pa', pc', hsl, _, hi64, hcl⟩ := HPI.out
                      obtain ⟨pb, po, hpa', hc⟩ := hcl j T hT
                      obtain rfl : pa = pa' := by simp at hsl; exact hsl.1
                      subst hpa'
                      have HT := hid hT
                      have hTi := hid (hi64 T (List.mem_of_getElem? hT))
                      have lr : pb < w.heap.size := World.block_lt_of_cell? _ _ hc
                      have hlow := HQ5.out.low HW.out.b HW.out.row
                      have cT := (hlow.cell (p := ⟨pb, po + j, none⟩) lr).trans hc
                      clear hsl hi64 hcl hc hT
                      go_wp2_with fail
                      refine (at_any T _ hTi.out.1 hTi.out.2).mono ?_
                      rintro e w6b ⟨rfl, hb6⟩
                      have H6 := hid (HQ5.out.quiet hb6)
                      clear hb6 cT hlow
                      go_upto_region 32 with fail
                      go_cut [] (fun wx => ∃ pv2, Rd w wo cv0 d ra (some ⟨pb, po, none⟩) rc pc E TR id nv lv wx u14 pv2 wv L5 d.reps.length (j + 1) ∧ Blk wx w6b.heap.size #[.int .u64 (tN T), .int .i64 (tS T), .pointer none] 36)
                      case first =>
                        obtain ⟨b0, b1, b2, b3, b4, b5, b6, b7, b8, b9, b10, b11, bf⟩ := H6.out.e.cells12
                        have lE := H6.out.e.lt
                        have hsz6 := (H6.out.low HW.out.b HW.out.row).size
                        have HWN : Hid (pv.ownBlock ≠ some w6b.heap.size) := fun h => absurd (row_lt H6.out.po h) (Nat.lt_irrefl _)
                        have HEN : Hid (pv.ownBlock ≠ some E) := row_ne H6.out.po H6.out.e (by decide)
                        have HBk : Hid (∀ o, Blk ((w6b.alloc (.cells #[.int .u64 (tN T), .int .i64 (tS T), .pointer none] 36)).alloc o).drew w6b.heap.size #[.int .u64 (tN T), .int .i64 (tS T), .pointer none] 36) := fun o => Blk.drew ((Blk.new w6b _ _).alloc o)
                        have HEk : Hid (∀ o o', Blk ((w6b.alloc o).alloc o').drew E _ 53) := fun o o' => Blk.drew ((H6.out.e.alloc o).alloc o')
                        go_region_law (first
                          | (refine step_app1 rfl (.tmp 157) (.tmp 160) 47 rfl 72 _ 9 64 Yba.underlying47 info72 rfl (by decide) w.heap.size (w6b.heap.size + 1) pv j (peerF (d.peers.take j)) #[.int .u32 0, .int .u32 0, .int .u32 0, .int .u64 0, .int .u64 0, .pointer none, .int .u64 (tN T), .int .i64 (tS T), .pointer none] rfl rfl (by exact (((H6.out.alloc _).alloc _).drew).po) (by exact Blk.drew (Blk.new' (by simp))) rfl (by simp [Value.oneCell']) (by omega) (by decide) (by simp; omega) ?_
                             intro g7 cap7 w7 r1 r2 r3 r4
                             have H7 : Hid (Rd w wo cv0 d ra (some ⟨pb, po, none⟩) rc pc E TR id nv lv (w7.setCell ⟨E, 8, none⟩ (.slice (some ⟨g7, 0, none⟩) (j + 1) cap7)) u14 (.slice (some ⟨g7, 0, none⟩) (j + 1) cap7) wv L5 d.reps.length (j + 1)) := Rd.papp (((H6.out.alloc _).alloc _).drew) HT.out r1 r2 r3
                             have HB7 : Hid (Blk w7 w6b.heap.size #[.int .u64 (tN T), .int .i64 (tS T), .pointer none] 36) := Blk.fr (HBk.out _) r2 HWN.out
                             have hE7 := Blk.fr (HEk.out _ _) r2 HEN.out
                             clear r1 r2 r3 r4
                             obtain ⟨d0, d1, d2, d3, d4, d5, d6, d7, d8, d9, d10, d11, df⟩ := hE7.cells12
                             have lE7 := hE7.lt))
                        all_goals (try go_wp2_with fail)
                        all_goals go_meet
                        all_goals exact ⟨_, H7.out, HB7.out.set_other (by have := (hE7.ne HB7.out (by decide)); simp; omega) _⟩
                      case rest =>
                        obtain ⟨pv2, hrd2, hb21⟩ := hcut
                        obtain ⟨y0, y1, y2, yf⟩ := hb21.cells3
                        have ly := hb21.lt
                        go_wp2_with fail
                        refine (add_T T 2000 hTi.out.mild _ (by decide) (by decide)).mono ?_
                        rintro e w8 ⟨rfl, hb8⟩
                        have H8 := hid (hrd2.quiet hb8)
                        have hsz8 := (H8.out.low HW.out.b HW.out.row).size
                        clear hrd2 hb21 hb8 y0 y1 y2 yf
                        go_wp2_with (at_builtin; refine wpList_app1 rfl (.tmp 164) (.tmp 168) 38 rfl 36 _ 3 24 Yba.underlying38 info36 rfl (by decide) w.heap.size w8.heap.size u14 L5.length (timeF L5) #[.int .u64 (tN (T + 2000)), .int .i64 (tS (T + 2000)), .pointer none] rfl rfl (by exact (H8.out.alloc _).cd.row) (Blk.new w8 _ _) rfl (by simp [Value.oneCell']) (by omega) (by decide) (by simp; omega) ?_
                                     intro g9 cap9 w9 r1 r2 r3 r4
                                     have H9 : Hid (Rd w wo cv0 d ra (some ⟨pb, po, none⟩) rc pc E TR id nv lv w9 (.slice (some ⟨g9, 0, none⟩) (L5.length + 1) cap9) pv2 wv (L5 ++ [T + 2000]) d.reps.length (j + 1)) := (H8.out.alloc _).app r1 (by simp) (by simp [timeF, timeC]) r2 r3
                                     clear r1 r2 r3 r4)
                        go_roundg (d.peers.length - (j + 1))
                        case measure => omega
                        case rel =>
                          refine ⟨j + 1, L5 ++ [T + 2000], pv2, by omega, rfl, by go_num, H9.out, by simp; omega, fun c => ?_⟩
                          rw [take_more HT.out]
                          simp [HM5.out c, or_assoc, or_and_right, exists_or]
                    · have hje : j = d.peers.length := by omega
                      subst hje
                      have HM6 : Hid (∀ c, c ∈ L5 ↔ c ∈ L3 ∨ ∃ p ∈ d.peers, c = p + 2000) := by have := HM5.out; rwa [List.take_length] at this
                      have hsz9 := (HQ5.out.low HW.out.b HW.out.row).size
                      have HEV : Hid (wr.ownsRow w.heap.size 40 1 ev0 k (Es.map fun E => .pointer (some ⟨E, 0, none⟩))) := row_fr HW.out.es HQ5.out.cd.fr (fun g' hg' => row_ne_row HW.out.es HW.out.row (by decide) hg')
                      have HPP : Hid (∀ p ∈ d.peers, I64 p) := by obtain ⟨_, _, _, _, h, _⟩ := HPI.out; exact h
                      go_wp2_with (at_builtin; refine wpList_app1 rfl (.tmp 171) (.tmp 173) 39 rfl 40 _ 1 8 Yba.underlying39 info40 rfl (by decide) w.heap.size wr.heap.size ev0 k (Es.map fun E => .pointer (some ⟨E, 0, none⟩)) #[.pointer (some ⟨E, 0, none⟩)] rfl rfl (by exact HEV.out.alloc _) (Blk.new wr _ _) rfl (by simp [Value.oneCell']) (by omega) (by decide) (by simp; omega) ?_
                                   intro g9 cap9 w9 r1 r2 r3 r4
                                   have H9 : Hid (Lw2 w w9 R S g eps (k + 1) u14 (.slice (some ⟨g9, 0, none⟩) (k + 1) cap9) L5 (Es ++ [E])) :=
                                     HW.out.step HDD.out HQ5.out hl5 (fun c => by rw [HM6.out c, HM4.out c, HM2.out c]; unfold EpSet; simp only [or_assoc]) hr256 hp256 HPP.out r1 r2 ((Below.refl _ wr).alloc (Nat.le_refl _) _)
                                   clear r1 r2 r3 r4)
                      go_roundg (n - (k + 1))
                      case measure => omega
                      case rel => exact ⟨k + 1, L5, Es ++ [E], by omega, rfl, by go_num, H9.out⟩
        · have hkn : n = k := by omega
          subst hkn
          have hnl := HN.out
          have H20 := hid (Lw5.start us (by rw [hnl]; exact HW.out))
          clear HW HE
          have hmk : ∀ W, (Instr.makeMap 74 none).run Yba.prog W = .ok (.map (some W.heap.size)) (W.alloc (.map #[] 0)) := fun W => rfl
          go_wp2
          clear hmk
          generalize (wo.alloc (.map #[] 0)) = w5 at H20 ⊢
          generalize wo.heap.size = mb at H20 ⊢
          go_loopg [14, 179] m (fun gk v14 v179 wr => ∃ (k : Nat) (L : List Int) (D : DataW Unit), k ≤ m ∧ gk = m - k ∧ v179 = .int .i64 k ∧ Lw5 w wr R S g eps us k v14 ev0 L Es mb D)
          case atStart => exact ⟨0, L, _, Nat.zero_le _, rfl, rfl, H20.out⟩
          case round =>
            obtain ⟨k, L6, D, hk6, rfl, rfl, hlw⟩ := hrel
            have H21 := hid hlw
            clear hlw H20
            by_cases hlt5 : k < m
            · have hlt6 := hlt5
              obtain ⟨u, hu⟩ : ∃ u, us[k]? = some u := ⟨us[k]'(by have := HM.out; omega), List.getElem?_eq_getElem _⟩
              obtain ⟨ua', uc', hsl, _, hi64, hcl⟩ := HU.out
              obtain ⟨ub, uo, hua', hc⟩ := hcl k u hu
              obtain rfl : ua = ua' := by simp at hsl; exact hsl.1
              subst hua'
              have HUU := hid hu
              have hui := hid (hi64 u (List.mem_of_getElem? hu))
              have lr : ub < w.heap.size := World.block_lt_of_cell? _ _ hc
              have cT := (H21.out.b.cell (p := ⟨ub, uo + k, none⟩) lr).trans hc
              clear hsl hi64 hcl hc hu
              go_wp2_with fail
              refine (at_any u _ hui.out.1 hui.out.2).mono ?_
              rintro e w6 ⟨rfl, hb6⟩
              have H22 := hid (H21.out.quiet hb6)
              clear hb6 cT H21
              have hlen6 := H22.out.len
              have hmb6 := H22.out.map.lt
              go_wp2_with (first
                | (at_mapUpdate
                   refine wpList_mapUpdate_own _ rfl _ _ _ 74 rfl 68 _ (Maps.int_keyed Yba.underlying68) Yba.underlying74 ptrElem mb k D rfl (by exact H22.out.map.alloc _) (by unfold maxLen; omega) _ _ (.int .u32 k) rfl rfl (key_u32 k (by omega)) _ [] (ptrElem_mk w6.heap.size) ?_
                   intro w7 hm7 hg7
                   have hM := Blk.new w6 #[.int .u32 0, .int .u32 0, .int .u8 0, .int .u8 0, .int .u8 0, .int .u8 0, .int .u8 0, .int .u8 0, .int .u8 0, .int .u8 0, .slice none 0 0, .int .u64 0, .int .i64 0, .pointer none, .slice none 0 0, .int .u64 (tN u), .int .i64 (tS u), .pointer none] 84
                   have H23 : Hid (Lw5n w w7 R S g eps us k u14 ev0 L6 Es mb (D.put (.int .u32 k) (.lit (.int .i64 w6.heap.size)))) := (H22.out.quiet ((Below.refl _ w6).alloc (Nat.le_refl _) _)).node HUU.out ⟨hM.cell 15, hM.cell 16, hM.cell 17⟩ hM hm7 hg7
                   have HM7 : Hid (Blk w7 w6.heap.size #[.int .u32 0, .int .u32 0, .int .u8 0, .int .u8 0, .int .u8 0, .int .u8 0, .int .u8 0, .int .u8 0, .int .u8 0, .int .u8 0, .slice none 0 0, .int .u64 0, .int .i64 0, .pointer none, .slice none 0 0, .int .u64 (tN u), .int .i64 (tS u), .pointer none] 84) := hM.grown hg7 (by simp; omega)
                   have m15 : w7.cell? ⟨w6.heap.size, 15, none⟩ = some (.int .u64 (tN u)) := HM7.out.cell 15
                   have m16 : w7.cell? ⟨w6.heap.size, 16, none⟩ = some (.int .i64 (tS u)) := HM7.out.cell 16
                   have m17 : w7.cell? ⟨w6.heap.size, 17, none⟩ = some (.pointer none) := HM7.out.cell 17
                   clear hM hm7 hg7))
              refine (isZero_T u _).mono ?_
              rintro e w8 ⟨rfl, hb8⟩
              have H24 := hid (H23.out.quiet hb8)
              have HM8 := hid (HM7.out.below hb8 HM7.out.lt)
              have p5 : w8.cell? ⟨w.heap.size, 5, none⟩ = some (.int .i64 g) := H24.out.prof.cell 5
              clear hb8 m15 m16 m17 H23 HM7 H22 hmb6
              have m15 : w8.cell? ⟨w6.heap.size, 15, none⟩ = some (.int .u64 (tN u)) := HM8.out.cell 15
              have m16 : w8.cell? ⟨w6.heap.size, 16, none⟩ = some (.int .i64 (tS u)) := HM8.out.cell 16
              have m17 : w8.cell? ⟨w6.heap.size, 17, none⟩ = some (.pointer none) := HM8.out.cell 17
              go_upto_if 197 with fail
              by_cases hz : u = 0
              · have hdz : decide (u = 0) = true := by simpa using hz
                simp only [hdz, Bool.not_true]
                go_wp2_with fail
                go_roundg (m - (k + 1))
                case measure => omega
                case rel => exact ⟨k + 1, _, _, by omega, rfl, by go_num, H24.out.zero HUU.out hz⟩
              · have hdz : decide (u = 0) = false := by simpa using hz
                simp only [hdz, Bool.not_false]
                have HNZ := hid hz
                have hgb := HG.out
                clear hz hdz
                go_wp2_with fail
                go_region_law (first
                  | (refine step_app1 rfl (.tmp 198) (.tmp 206) 38 rfl 36 _ 3 24 Yba.underlying38 info36 rfl (by decide) w.heap.size w9.heap.size u14 L6.length (timeF L6) #[.int .u64 (tN (u + g)), .int .i64 (tS (u + g)), .pointer none] rfl rfl (by exact H25.out.row.alloc _) (by exact Blk.new w9 _ _) rfl (by simp [Value.oneCell']) (by omega) (by decide) (by simp; omega) ?_
                     intro g10 cap10 w10 r1 r2 r3 r4
                     have H26 : Hid (Lw5 w w10 R S g eps us (k + 1) (.slice (some ⟨g10, 0, none⟩) (L6.length + 1) cap10) ev0 (L6 ++ [u + g]) Es mb (D.put (.int .u32 k) (.lit (.int .i64 w6.heap.size)))) := (H25.out.quiet ((Below.refl _ w9).alloc (Nat.le_refl _) _)).app HUU.out HNZ.out r1 (by simp) (by simp [timeF, timeC]) r2
                     clear r1 r2 r3 r4)
                  | (go_simp
                     go_at_call 7
                     refine (add_T u g hui.out.mild _ (by omega) (by omega)).mono ?_
                     rintro e w9 ⟨rfl, hb9⟩
                     have H25 : Hid (Lw5n w w9 R S g eps us k u14 ev0 L6 Es mb (D.put (.int .u32 k) (.lit (.int .i64 w6.heap.size)))) := H24.out.quiet ((Below.refl _ w8).drew.trans hb9)
                     have hsz9 := H25.out.b.size
                     clear hb9))
                all_goals (try go_wp2_with fail)
                all_goals go_roundg (m - (k + 1))
                all_goals first
                  | omega
                  | exact ⟨k + 1, _, _, by omega, rfl, by go_num, H26.out⟩
            · have hkm : m = k := by omega
              subst hkm
              have hml := HM.out
              have HNOD : Hid (NodesAt wr D us) := by have := H21.out.nod; rwa [List.take_of_length_le (by omega)] at this
              have HMEM : Hid (∀ c, c ∈ L6 ↔ SeenE R S eps c ∨ ∃ u ∈ us, u ≠ 0 ∧ c = u + g) := by have := H21.out.mem; rwa [List.take_of_length_le (by omega)] at this
              have hpos : 0 < L6.length := by
                have : R ∈ L6 := (HMEM.out R).2 (Or.inl (Or.inl rfl))
                exact List.length_pos_of_mem this
              obtain ⟨gc, cc, hcf, _, _⟩ := H21.out.row.form (by omega)
              subst hcf
              obtain ⟨ea', ec', hef, _, _⟩ := row_form H21.out.es
              rw [hnl] at hef
              subst hef
              go_upto_region 46 with fail
              go_cut [29] (fun v29 wx => ∃ Nb, v29 = .pointer (some ⟨Nb, 0, none⟩) ∧ Blk wx Nb #[.int .i64 0, .int .i64 0, .int .i64 0, .int .i64 1000, .float .f64 4611686018427387904, .int .i64 g, .int .i64 0, .int .i64 0, .int .i64 0, .int .i64 0, .int .i64 0, .int .i64 0, .int .i64 0, .int .i64 0, .pointer none, .pointer none, .int .u32 0, .int .u64 0, .int .i64 0, .pointer none, .int .u64 0, .int .i64 0, .pointer none, .slice none 0 0, .slice none 0 0, .nilFunc, .int .u64 (tN R), .int .i64 (tS R), .pointer none, .map (some mb), .slice ea' n ec', .slice none 0 0, .int .u8 0, .int .u8 0, .int .u8 0, .int .u8 0, .int .u8 0, .int .u8 0, .int .u8 0, .int .u8 0, .bool false, .int .u64 (tN S), .int .i64 (tS S), .pointer none] 92 ∧
                Lw5 w wx R S g eps us m (.slice (some ⟨gc, 0, none⟩) L6.length cc) (.slice ea' n ec') L6 Es mb D)
              case first =>
                refine r46 (by kernel_rfl) HR HS H21 ?_
                intro v29 v209 v210 v211 v212 v213 v214 v215 v216 v217 wx hrel
                dsimp only
                (try go_wp2_with fail)
                go_meet
                exact hrel
              case rest =>
                obtain ⟨Nb, rfl, hNb, hlw⟩ := hcut
                have hgb := HG.out
                have hpi : ∀ u ∈ us, I64 u := by obtain ⟨_, _, _, _, h, _⟩ := HU.out; exact h
                have hnod7 : NodesAt wc D us := by have := hlw.nod; rwa [List.take_of_length_le (by omega)] at this
                have hNx := nodeNext_any Nb w.heap.size mb n ec' ea' R S g eps Es wc hNb (by have := hlw.es; rwa [hnl] at this) hnl (by omega) hlw.ep m D us hlw.map hnod7 hpi (by omega) (by omega)
                have HNX := hid hNx
                have HL7 := hid hlw
                clear hNx hNb hlw hnod7 hpi
                go_wp2_with fail
                refine HNX.out.mono ?_
                rintro e w8 ⟨G, rfl, hmin, hb8⟩
                have H8 := hid (HL7.out.quiet hb8)
                have HMIN := hid hmin
                clear hmin hb8 HNX HL7 H21
                have HX8 : Hid (Blk (w8.alloc (.cells #[.int .u64 (tN G), .int .i64 (tS G), .pointer none] 36)) w8.heap.size #[.int .u64 (tN G), .int .i64 (tS G), .pointer none] 36) := Blk.new w8 _ _
                have H9 := hid (H8.out.quiet ((Below.refl _ w8).alloc (Nat.le_refl _) (.cells #[.int .u64 (tN G), .int .i64 (tS G), .pointer none] 36)))
                go_wp2
                generalize (w8.alloc (.cells #[.int .u64 (tN G), .int .i64 (tS G), .pointer none] 36)) = w9 at HX8 H9 ⊢
                generalize w8.heap.size = X at HX8 ⊢
                have hlen9 := H9.out.len
                go_loopg [31, 222] L6.length (fun gk v31 v222 wr => ∃ (k : Nat), k ≤ L6.length ∧ gk = L6.length - k ∧ v222 = .int .i64 k ∧ v31 = .bool (decide (G ∈ L6.take k)) ∧ Below w9.heap.size w9 wr)
                case atStart => exact ⟨0, Nat.zero_le _, rfl, rfl, by simp, Below.refl _ _⟩
                case round =>
                  obtain ⟨k, hk9, rfl, rfl, rfl, hbr⟩ := hrel
                  have HBR := hid hbr
                  clear hbr
                  by_cases hlt9 : k < L6.length
                  · obtain ⟨T, hT⟩ : ∃ T, L6[k]? = some T := ⟨L6[k]'hlt9, List.getElem?_eq_getElem _⟩
                    have hrow := H9.out.row
                    have t0 := cell_up HBR.out (row_cell hrow (timeF_get L6 k 0 T hT (by omega)))
                    have t1 := cell_up HBR.out (row_cell hrow (timeF_get L6 k 1 T hT (by omega)))
                    have t2 := cell_up HBR.out (row_cell hrow (timeF_get L6 k 2 T hT (by omega)))
                    obtain ⟨y0, y1, y2, yf⟩ := HX8.out.cells3
                    have z0 := cell_up HBR.out y0
                    have z1 := cell_up HBR.out y1
                    have z2 := cell_up HBR.out y2
                    have lX : X < wr.heap.size := World.block_lt_of_cell? _ _ z0
                    have lG : gc < wr.heap.size := World.block_lt_of_cell? _ _ t0
                    have HT := hid hT
                    have hnb : ¬ T < G := by have := HMIN.out.2 T ((HMEM.out T).1 (List.mem_of_getElem? hT)); omega
                    have hdb : decide (T < G) = false := decide_eq_false hnb
                    rw [Nat.add_zero] at t0
                    clear hT hrow y0 y1 y2 yf hnb
                    go_wp2_with fail
                    refine (before_T T G _).mono ?_
                    rintro e w10 ⟨rfl, hb10⟩
                    have HC10 : Hid (Blk w10 wr.heap.size #[.int .u64 (tN T), .int .i64 (tS T), .pointer none] 36) := (Blk.new wr _ _).below hb10 (by simp)
                    have hz10 : Below wr.heap.size wr w10 := ((Below.refl _ wr).alloc (Nat.le_refl _) _).trans (hb10.mono (by simp))
                    have HB10 := hid (HBR.out.trans (hz10.mono HBR.out.size))
                    have g0 := cell_up hz10 z0
                    have g1 := cell_up hz10 z1
                    have g2 := cell_up hz10 z2
                    obtain ⟨e0, e1, e2, ef⟩ := HC10.out.cells3
                    have lC := HC10.out.lt
                    have lX2 : X < w10.heap.size := World.block_lt_of_cell? _ _ g0
                    clear hb10 hz10 t0 t1 t2 z0 z1 z2
                    simp only [hdb]
                    go_wp2_with fail
                    refine (equal_T T G _).mono ?_
                    rintro e w11 ⟨rfl, hb11⟩
                    have HB11 := hid (HB10.out.trans (hb11.mono HB10.out.size))
                    clear hb11 g0 g1 g2 e0 e1 e2 ef HB10
                    by_cases hTG : T = G
                    · have hde : decide (T = G) = true := decide_eq_true hTG
                      simp only [hde]
                      go_wp2_with fail
                      go_roundg (L6.length - (k + 1))
                      case measure => omega
                      case rel =>
                        refine ⟨k + 1, by omega, rfl, by go_num, ?_, HB11.out⟩
                        rw [take_more HT.out, hTG]
                        simp
                    · have hde : decide (T = G) = false := decide_eq_false hTG
                      simp only [hde]
                      go_wp2_with fail
                      go_roundg (L6.length - (k + 1))
                      case measure => omega
                      case rel =>
                        refine ⟨k + 1, by omega, rfl, by go_num, ?_, HB11.out⟩
                        rw [take_more HT.out]
                        have hne : ¬ G = T := fun h => hTG h.symm
                        simp [hne]
                  · have hke : k = L6.length := by omega
                    subst hke
                    have hin : G ∈ L6 := (HMEM.out G).2 HMIN.out.1
                    go_wp2
                    go_ret
                    refine ⟨by simp [hin], ?_⟩
                    exact H9.out.b.trans (HBR.out.mono H9.out.b.size)
end Go.Proofs.Ybulkawpe
