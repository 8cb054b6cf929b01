import Derived.Test.YbulkawpsFmtRound0
import Derived.Test.YbulkawpsFmtRound1
import Derived.Test.YbulkawpsFmtRound2
import Derived.Test.YbulkawpsFmtRound3
import Derived.Test.YbulkawpsFmtRound4
import Derived.Test.YbulkawpsFmtRound5
import Derived.Deep.LoopGhost
import Derived.Deep.DeepCutAuto
/- The law C-Script (func 5). -/
namespace Go.Proofs.YbulkawpsFmt
open Go.RowKit
set_option linter.unusedVariables false
set_option maxRecDepth 100000
set_option maxHeartbeats 4000000 in
theorem script_any (sa : Option Addr) (S : List St) (c : Nat) (w : World) (hN : Names w) (hw0 : 0 < w.heap.size) (hlen : S.length ≤ maxLen) (hS : StepsArg w sa S) :
    Calls Ybaf.prog 5 #[.slice sa S.length c] w fun e w' => e = .returned (.bool true) ∧ Below w.heap.size w w' := by
  have HS := hid hS
  have HN := hid hN
  clear hS hN
  generalize hn0 : S.length = n at *
  have HN0 := hid hn0
  clear hn0
  go_enter Ybaf.func5, Ybaf.ntmps5
  by_cases hn : (n : Int) > 1024
  · go_wp2
    go_ret
    exact ⟨rfl, Below.refl _ _⟩
  · go_wp2_with fail
    have HTH := hid ((Blk.new w #[.string ⟨#[49]⟩, .string ⟨#[50]⟩, .string ⟨#[51]⟩] 48).alloc (.cells #[.string ⟨#[120]⟩, .string ⟨#[121]⟩, .string ⟨#[122]⟩] 48))
    have HVA : Hid (Blk ((w.alloc (.cells #[.string ⟨#[49]⟩, .string ⟨#[50]⟩, .string ⟨#[51]⟩] 48)).alloc (.cells #[.string ⟨#[120]⟩, .string ⟨#[121]⟩, .string ⟨#[122]⟩] 48)) (w.heap.size + 1) #[.string ⟨#[120]⟩, .string ⟨#[121]⟩, .string ⟨#[122]⟩] 48) := Blk.new' (by simp)
    have HB1 : Hid (Below w.heap.size w ((w.alloc (.cells #[.string ⟨#[49]⟩, .string ⟨#[50]⟩, .string ⟨#[51]⟩] 48)).alloc (.cells #[.string ⟨#[120]⟩, .string ⟨#[121]⟩, .string ⟨#[122]⟩] 48))) := ((Below.refl _ w).alloc (Nat.le_refl _) _).alloc (by simp) _
    have hs1 : ((w.alloc (.cells #[.string ⟨#[49]⟩, .string ⟨#[50]⟩, .string ⟨#[51]⟩] 48)).alloc (.cells #[.string ⟨#[120]⟩, .string ⟨#[121]⟩, .string ⟨#[122]⟩] 48)).heap.size = w.heap.size + 2 := by simp
    generalize ((w.alloc (.cells #[.string ⟨#[49]⟩, .string ⟨#[50]⟩, .string ⟨#[51]⟩] 48)).alloc (.cells #[.string ⟨#[120]⟩, .string ⟨#[121]⟩, .string ⟨#[122]⟩] 48)) = w1 at HTH HVA HB1 hs1 ⊢
    refine (fresh_any w1).mono ?_
    rintro e w2 ⟨rfl, hr2, hm2, hb2⟩
    rw [hs1] at hr2 hm2
    have HR2 := hid hr2
    have HM2 := hid hm2
    have HB2 := hid hb2
    rw [hs1]
    clear hr2 hm2 hb2
    have hz2 : Blk (w2.alloc (.cells #[.bool false, .bool false, .bool false, .bool false, .bool false, .bool false, .bool false, .bool false, .bool false] 51)) w2.heap.size (bA (fun _ => false)) 51 := Blk.new w2 _ 51
    have HZ7 := hid (hz2.alloc (.cells #[.bool false, .bool false, .bool false, .bool false, .bool false, .bool false, .bool false, .bool false, .bool false] 51))
    have HZ8 : Hid (Blk ((w2.alloc (.cells #[.bool false, .bool false, .bool false, .bool false, .bool false, .bool false, .bool false, .bool false, .bool false] 51)).alloc (.cells #[.bool false, .bool false, .bool false, .bool false, .bool false, .bool false, .bool false, .bool false, .bool false] 51)) (w2.heap.size + 1) (bA (fun _ => false)) 51) := Blk.new' (by simp)
    have HB3 : Hid (Below w2.heap.size w2 ((w2.alloc (.cells #[.bool false, .bool false, .bool false, .bool false, .bool false, .bool false, .bool false, .bool false, .bool false] 51)).alloc (.cells #[.bool false, .bool false, .bool false, .bool false, .bool false, .bool false, .bool false, .bool false, .bool false] 51))) := ((Below.refl _ w2).alloc (Nat.le_refl _) _).alloc (by simp) _
    clear hz2
    go_wp2_with fail
    generalize ((w2.alloc (.cells #[.bool false, .bool false, .bool false, .bool false, .bool false, .bool false, .bool false, .bool false, .bool false] 51)).alloc (.cells #[.bool false, .bool false, .bool false, .bool false, .bool false, .bool false, .bool false, .bool false, .bool false] 51)) = w3 at HZ7 HZ8 HB3 ⊢
    have HSZ : Hid (w.heap.size + 7 ≤ w2.heap.size) := HR2.out.lt
    have HB3' : Hid (Below w.heap.size w w3) := HB1.out.trans ((HB2.out.mono (by omega)).trans (HB3.out.mono (by have := HSZ.out; omega)))
    have hq0 : ∀ (W : World) (b : Nat) (e : TypeId) (k : Nat), W.ownsRow b e k (.slice none 0 0) 0 [] := fun W b e k => ⟨by simp, Or.inl ⟨rfl, rfl⟩⟩
    have HM3 := hid (fun k R => (⟨map_fr (HM2.out k R).1 (Fr.of_grown HB3.out) (fun h => h), map_fr (HM2.out k R).2.1 (Fr.of_grown HB3.out) (fun h => h), map_fr (HM2.out k R).2.2.1 (Fr.of_grown HB3.out) (fun h => h), map_fr (HM2.out k R).2.2.2 (Fr.of_grown HB3.out) (fun h => h)⟩ : _ ∧ _ ∧ _ ∧ _))
    have HNU : Hid (Nums w.heap.size (w.heap.size + 2 + 4) (w.heap.size + 2) (w.heap.size + 2 + 1) (w.heap.size + 2 + 2) (w.heap.size + 2 + 3) w2.heap.size (w2.heap.size + 1)) := by
      have := HSZ.out
      constructor <;> omega
    have HJ : Hid (J w w3 w.heap.size (w.heap.size + 2 + 4) (w.heap.size + 2) (w.heap.size + 2 + 1) (w.heap.size + 2 + 2) (w.heap.size + 2 + 3) w.heap.size (w.heap.size + 1) w2.heap.size (w2.heap.size + 1) 0 0 (.slice none 0 0) (.slice none 0 0) (.slice none 0 0) [] [] (.map []) (.map []) (fun _ => false) (fun _ => false)) :=
      ⟨⟨HR2.out.below HB3.out HR2.out.lt, hq0 _ _ _ _, ⟨[], hq0 _ _ _ _⟩, (HM3.out _ _).1, (HM3.out _ _).2.1, (HM3.out _ _).2.2.1, (HM3.out _ _).2.2.2, HB3'.out.size⟩, hq0 _ _ _ _, fun g hg => by simp [Value.ownBlock] at hg, (HTH.out.below HB2.out HTH.out.lt).below HB3.out (by have := HTH.out.lt; have := HB2.out.size; omega), (HVA.out.below HB2.out HVA.out.lt).below HB3.out (by have := HVA.out.lt; have := HB2.out.size; omega), HZ7.out, HZ8.out, HN.out.below HB3'.out, HB3'.out⟩
    generalize w.heap.size + 2 + 4 = r at HNU HJ ⊢
    generalize w.heap.size + 2 + 1 = mw at HNU HJ ⊢
    generalize w.heap.size + 2 + 2 = mj at HNU HJ ⊢
    generalize w.heap.size + 2 + 3 = ma at HNU HJ ⊢
    generalize w.heap.size + 2 = ms at HNU HJ ⊢
    generalize w2.heap.size + 1 = a8 at HNU HJ ⊢
    generalize w2.heap.size = a7 at HNU HJ ⊢
    generalize w.heap.size + 1 = a4 at HJ ⊢
    obtain ⟨base, hbase⟩ : ∃ x, x = w.heap.size := ⟨_, rfl⟩
    rw [← hbase] at HNU HJ ⊢
    have HBS := hid hbase
    clear HTH HVA HB1 hs1 HR2 HM2 HB2 HZ7 HZ8 HB3 HM3 hq0 HB3' HSZ w1 w2 hbase hlen
    have hn' : n ≤ 1024 := by omega
    clear hn
    go_loopg [6, 28] n (fun gk v6 v28 wr => ∃ i, i ≤ n ∧ gk = n - i ∧ v28 = .int .i64 (i : Nat) ∧ Inv w wr base r ms mw mj ma base a4 a7 a8 i v6)
    case atStart => exact ⟨0, Nat.zero_le _, rfl, rfl, 0, 0, _, _, [], _, _, _, _, HJ.out, Tab.empty _, Tab.empty _, Nat.le_refl _, Nat.le_refl _, Nat.le_refl _⟩
    case round =>
      rename_i hHand
      obtain ⟨i, hi, rfl, rfl, hinv⟩ := hrel
      clear HJ
      by_cases hlt : i < n
      · obtain ⟨ns, nw, tv, qv, L, Ds, Dw, WM, SM, hJ, hTw, hTs, hLl, hns, hnw⟩ := hinv
        obtain ⟨d, hd⟩ : ∃ d, S[i]? = some d := ⟨S[i]'(by rw [HN0.out]; exact hlt), List.getElem?_eq_getElem _⟩
        obtain ⟨b, o, hsa, c0, c1, c2, c3, q0, q1, q2, q3⟩ := HS.out i d hd
        subst hsa
        have y0 := (hJ.bl.cell (by rw [HBS.out]; exact World.block_lt_of_cell? _ _ c0)).trans c0
        have y1 := (hJ.bl.cell (by rw [HBS.out]; exact World.block_lt_of_cell? _ _ c1)).trans c1
        have y2 := (hJ.bl.cell (by rw [HBS.out]; exact World.block_lt_of_cell? _ _ c2)).trans c2
        have y3 := (hJ.bl.cell (by rw [HBS.out]; exact World.block_lt_of_cell? _ _ c3)).trans c3
        clear c0 c1 c2 c3 hd
        obtain ⟨sh, su, th, op⟩ := d
        simp only at y0 y1 y2 y3 q0 q1 q2 q3
        obtain ⟨ti, hti, hti3⟩ : ∃ ti : Nat, th % 3 = ti ∧ ti < 3 := ⟨_, rfl, Nat.mod_lt _ (by decide)⟩
        obtain ⟨xi, hxi, hxi3⟩ : ∃ xi : Nat, op % 3 = xi ∧ xi < 3 := ⟨_, rfl, Nat.mod_lt _ (by decide)⟩
        have hH : Hd w wr base r ms mw mj ma a4 a7 a8 n i b o sh su th op ti xi ns nw tv qv u6 L Ds Dw WM SM := ⟨hJ, hTw, hTs, hLl, hns, hnw, HNU.out, y0, y1, y2, y3, q0, q1, q2, q3, hti, hxi, hti3, hxi3, hlt, hn'⟩
        clear hJ hTw hTs hLl hns hnw y0 y1 y2 y3 q0 q1 q2 q3 hti hxi hti3 hxi3
        have hs6 : sh % 6 = 0 ∨ sh % 6 = 1 ∨ sh % 6 = 2 ∨ sh % 6 = 3 ∨ sh % 6 = 4 ∨ sh % 6 = 5 := by omega
        have hu2 : su % 2 = 0 ∨ su % 2 = 1 := by omega
        rcases hs6 with hs | hs | hs | hs | hs | hs
        · rcases hu2 with hu | hu
          · refine r0a rfl hH hs hu ?_
            intro d6 d9 d10 d11 d12 d13 d14 d15 d16 d17 d18 d19 d29 d30 d31 d32 d33 d34 d35 d36 d37 d38 d39 d40 d41 d42 d43 d44 d45 d46 d47 d48 d49 d50 d51 d52 d53 d54 d55 d56 d57 d58 d59 d60 d61 d62 d63 d64 d65 d66 d67 d68 d69 d70 d71 d72 d73 d74 d75 d76 d77 d78 d79 d80 d81 d82 d83 d84 d85 d86 d87 d88 d89 d90 d91 d92 d93 d94 d95 d96 d97 d98 d99 d100 d101 d102 d103 d104 d105 d106 d107 d108 d109 d110 d111 d112 d113 d114 d115 d116 d117 d118 d119 d120 d121 d122 d123 d124 d125 d126 d127 d128 d129 d130 d131 d132 d133 d134 d135 d136 d137 d138 d139 d140 d141 d142 d143 d144 d145 d146 d147 d148 d149 d150 d151 d152 d153 d154 d155 d156 d157 d158 d159 d160 d161 d162 d163 d164 d165 d166 d167 d168 d169 d170 d171 d172 d173 d174 d175 d176 d177 d178 d179 d180 d181 d182 d183 d184 d185 d186 d187 d188 d189 d190 d191 d192 d193 d194 d195 d196 d197 d198 d199 d200 d201 d202 d203 d204 d205 d206 d207 d208 w' hI
            refine hHand _ _ ?_
            go_roundg (n - (i + 1))
            case measure => omega
            case rel => exact ⟨i + 1, by omega, rfl, by go_num, hI⟩
          · refine r0b rfl hH hs hu ?_
            intro d6 d9 d10 d11 d12 d13 d14 d15 d16 d17 d18 d19 d29 d30 d31 d32 d33 d34 d35 d36 d37 d38 d39 d40 d41 d42 d43 d44 d45 d46 d47 d48 d49 d50 d51 d52 d53 d54 d55 d56 d57 d58 d59 d60 d61 d62 d63 d64 d65 d66 d67 d68 d69 d70 d71 d72 d73 d74 d75 d76 d77 d78 d79 d80 d81 d82 d83 d84 d85 d86 d87 d88 d89 d90 d91 d92 d93 d94 d95 d96 d97 d98 d99 d100 d101 d102 d103 d104 d105 d106 d107 d108 d109 d110 d111 d112 d113 d114 d115 d116 d117 d118 d119 d120 d121 d122 d123 d124 d125 d126 d127 d128 d129 d130 d131 d132 d133 d134 d135 d136 d137 d138 d139 d140 d141 d142 d143 d144 d145 d146 d147 d148 d149 d150 d151 d152 d153 d154 d155 d156 d157 d158 d159 d160 d161 d162 d163 d164 d165 d166 d167 d168 d169 d170 d171 d172 d173 d174 d175 d176 d177 d178 d179 d180 d181 d182 d183 d184 d185 d186 d187 d188 d189 d190 d191 d192 d193 d194 d195 d196 d197 d198 d199 d200 d201 d202 d203 d204 d205 d206 d207 d208 w' hI
            refine hHand _ _ ?_
            go_roundg (n - (i + 1))
            case measure => omega
            case rel => exact ⟨i + 1, by omega, rfl, by go_num, hI⟩
        · refine r1 rfl hH hs ?_
          intro d6 d9 d10 d11 d12 d13 d14 d15 d16 d17 d18 d19 d29 d30 d31 d32 d33 d34 d35 d36 d37 d38 d39 d40 d41 d42 d43 d44 d45 d46 d47 d48 d49 d50 d51 d52 d53 d54 d55 d56 d57 d58 d59 d60 d61 d62 d63 d64 d65 d66 d67 d68 d69 d70 d71 d72 d73 d74 d75 d76 d77 d78 d79 d80 d81 d82 d83 d84 d85 d86 d87 d88 d89 d90 d91 d92 d93 d94 d95 d96 d97 d98 d99 d100 d101 d102 d103 d104 d105 d106 d107 d108 d109 d110 d111 d112 d113 d114 d115 d116 d117 d118 d119 d120 d121 d122 d123 d124 d125 d126 d127 d128 d129 d130 d131 d132 d133 d134 d135 d136 d137 d138 d139 d140 d141 d142 d143 d144 d145 d146 d147 d148 d149 d150 d151 d152 d153 d154 d155 d156 d157 d158 d159 d160 d161 d162 d163 d164 d165 d166 d167 d168 d169 d170 d171 d172 d173 d174 d175 d176 d177 d178 d179 d180 d181 d182 d183 d184 d185 d186 d187 d188 d189 d190 d191 d192 d193 d194 d195 d196 d197 d198 d199 d200 d201 d202 d203 d204 d205 d206 d207 d208 w' hI
          refine hHand _ _ ?_
          go_roundg (n - (i + 1))
          case measure => omega
          case rel => exact ⟨i + 1, by omega, rfl, by go_num, hI⟩
        · rcases hu2 with hu | hu
          · refine r2a rfl hH hs hu ?_
            intro d6 d9 d10 d11 d12 d13 d14 d15 d16 d17 d18 d19 d29 d30 d31 d32 d33 d34 d35 d36 d37 d38 d39 d40 d41 d42 d43 d44 d45 d46 d47 d48 d49 d50 d51 d52 d53 d54 d55 d56 d57 d58 d59 d60 d61 d62 d63 d64 d65 d66 d67 d68 d69 d70 d71 d72 d73 d74 d75 d76 d77 d78 d79 d80 d81 d82 d83 d84 d85 d86 d87 d88 d89 d90 d91 d92 d93 d94 d95 d96 d97 d98 d99 d100 d101 d102 d103 d104 d105 d106 d107 d108 d109 d110 d111 d112 d113 d114 d115 d116 d117 d118 d119 d120 d121 d122 d123 d124 d125 d126 d127 d128 d129 d130 d131 d132 d133 d134 d135 d136 d137 d138 d139 d140 d141 d142 d143 d144 d145 d146 d147 d148 d149 d150 d151 d152 d153 d154 d155 d156 d157 d158 d159 d160 d161 d162 d163 d164 d165 d166 d167 d168 d169 d170 d171 d172 d173 d174 d175 d176 d177 d178 d179 d180 d181 d182 d183 d184 d185 d186 d187 d188 d189 d190 d191 d192 d193 d194 d195 d196 d197 d198 d199 d200 d201 d202 d203 d204 d205 d206 d207 d208 w' hI
            refine hHand _ _ ?_
            go_roundg (n - (i + 1))
            case measure => omega
            case rel => exact ⟨i + 1, by omega, rfl, by go_num, hI⟩
          · refine r2b rfl hH hs hu ?_
            intro d6 d9 d10 d11 d12 d13 d14 d15 d16 d17 d18 d19 d29 d30 d31 d32 d33 d34 d35 d36 d37 d38 d39 d40 d41 d42 d43 d44 d45 d46 d47 d48 d49 d50 d51 d52 d53 d54 d55 d56 d57 d58 d59 d60 d61 d62 d63 d64 d65 d66 d67 d68 d69 d70 d71 d72 d73 d74 d75 d76 d77 d78 d79 d80 d81 d82 d83 d84 d85 d86 d87 d88 d89 d90 d91 d92 d93 d94 d95 d96 d97 d98 d99 d100 d101 d102 d103 d104 d105 d106 d107 d108 d109 d110 d111 d112 d113 d114 d115 d116 d117 d118 d119 d120 d121 d122 d123 d124 d125 d126 d127 d128 d129 d130 d131 d132 d133 d134 d135 d136 d137 d138 d139 d140 d141 d142 d143 d144 d145 d146 d147 d148 d149 d150 d151 d152 d153 d154 d155 d156 d157 d158 d159 d160 d161 d162 d163 d164 d165 d166 d167 d168 d169 d170 d171 d172 d173 d174 d175 d176 d177 d178 d179 d180 d181 d182 d183 d184 d185 d186 d187 d188 d189 d190 d191 d192 d193 d194 d195 d196 d197 d198 d199 d200 d201 d202 d203 d204 d205 d206 d207 d208 w' hI
            refine hHand _ _ ?_
            go_roundg (n - (i + 1))
            case measure => omega
            case rel => exact ⟨i + 1, by omega, rfl, by go_num, hI⟩
        · cases hwm : WM (ti * 3 + xi)
          · refine r3a rfl hH hs hwm ?_
            intro d6 d9 d10 d11 d12 d13 d14 d15 d16 d17 d18 d19 d29 d30 d31 d32 d33 d34 d35 d36 d37 d38 d39 d40 d41 d42 d43 d44 d45 d46 d47 d48 d49 d50 d51 d52 d53 d54 d55 d56 d57 d58 d59 d60 d61 d62 d63 d64 d65 d66 d67 d68 d69 d70 d71 d72 d73 d74 d75 d76 d77 d78 d79 d80 d81 d82 d83 d84 d85 d86 d87 d88 d89 d90 d91 d92 d93 d94 d95 d96 d97 d98 d99 d100 d101 d102 d103 d104 d105 d106 d107 d108 d109 d110 d111 d112 d113 d114 d115 d116 d117 d118 d119 d120 d121 d122 d123 d124 d125 d126 d127 d128 d129 d130 d131 d132 d133 d134 d135 d136 d137 d138 d139 d140 d141 d142 d143 d144 d145 d146 d147 d148 d149 d150 d151 d152 d153 d154 d155 d156 d157 d158 d159 d160 d161 d162 d163 d164 d165 d166 d167 d168 d169 d170 d171 d172 d173 d174 d175 d176 d177 d178 d179 d180 d181 d182 d183 d184 d185 d186 d187 d188 d189 d190 d191 d192 d193 d194 d195 d196 d197 d198 d199 d200 d201 d202 d203 d204 d205 d206 d207 d208 w' hI
            refine hHand _ _ ?_
            go_roundg (n - (i + 1))
            case measure => omega
            case rel => exact ⟨i + 1, by omega, rfl, by go_num, hI⟩
          · refine r3b rfl hH hs hwm ?_
            intro d6 d9 d10 d11 d12 d13 d14 d15 d16 d17 d18 d19 d29 d30 d31 d32 d33 d34 d35 d36 d37 d38 d39 d40 d41 d42 d43 d44 d45 d46 d47 d48 d49 d50 d51 d52 d53 d54 d55 d56 d57 d58 d59 d60 d61 d62 d63 d64 d65 d66 d67 d68 d69 d70 d71 d72 d73 d74 d75 d76 d77 d78 d79 d80 d81 d82 d83 d84 d85 d86 d87 d88 d89 d90 d91 d92 d93 d94 d95 d96 d97 d98 d99 d100 d101 d102 d103 d104 d105 d106 d107 d108 d109 d110 d111 d112 d113 d114 d115 d116 d117 d118 d119 d120 d121 d122 d123 d124 d125 d126 d127 d128 d129 d130 d131 d132 d133 d134 d135 d136 d137 d138 d139 d140 d141 d142 d143 d144 d145 d146 d147 d148 d149 d150 d151 d152 d153 d154 d155 d156 d157 d158 d159 d160 d161 d162 d163 d164 d165 d166 d167 d168 d169 d170 d171 d172 d173 d174 d175 d176 d177 d178 d179 d180 d181 d182 d183 d184 d185 d186 d187 d188 d189 d190 d191 d192 d193 d194 d195 d196 d197 d198 d199 d200 d201 d202 d203 d204 d205 d206 d207 d208 w' hI
            refine hHand _ _ ?_
            go_roundg (n - (i + 1))
            case measure => omega
            case rel => exact ⟨i + 1, by omega, rfl, by go_num, hI⟩
        · cases hsm : SM (ti * 3 + xi)
          · refine r4a rfl hH hs hsm ?_
            intro d6 d9 d10 d11 d12 d13 d14 d15 d16 d17 d18 d19 d29 d30 d31 d32 d33 d34 d35 d36 d37 d38 d39 d40 d41 d42 d43 d44 d45 d46 d47 d48 d49 d50 d51 d52 d53 d54 d55 d56 d57 d58 d59 d60 d61 d62 d63 d64 d65 d66 d67 d68 d69 d70 d71 d72 d73 d74 d75 d76 d77 d78 d79 d80 d81 d82 d83 d84 d85 d86 d87 d88 d89 d90 d91 d92 d93 d94 d95 d96 d97 d98 d99 d100 d101 d102 d103 d104 d105 d106 d107 d108 d109 d110 d111 d112 d113 d114 d115 d116 d117 d118 d119 d120 d121 d122 d123 d124 d125 d126 d127 d128 d129 d130 d131 d132 d133 d134 d135 d136 d137 d138 d139 d140 d141 d142 d143 d144 d145 d146 d147 d148 d149 d150 d151 d152 d153 d154 d155 d156 d157 d158 d159 d160 d161 d162 d163 d164 d165 d166 d167 d168 d169 d170 d171 d172 d173 d174 d175 d176 d177 d178 d179 d180 d181 d182 d183 d184 d185 d186 d187 d188 d189 d190 d191 d192 d193 d194 d195 d196 d197 d198 d199 d200 d201 d202 d203 d204 d205 d206 d207 d208 w' hI
            refine hHand _ _ ?_
            go_roundg (n - (i + 1))
            case measure => omega
            case rel => exact ⟨i + 1, by omega, rfl, by go_num, hI⟩
          · refine r4b rfl hH hs hsm ?_
            intro d6 d9 d10 d11 d12 d13 d14 d15 d16 d17 d18 d19 d29 d30 d31 d32 d33 d34 d35 d36 d37 d38 d39 d40 d41 d42 d43 d44 d45 d46 d47 d48 d49 d50 d51 d52 d53 d54 d55 d56 d57 d58 d59 d60 d61 d62 d63 d64 d65 d66 d67 d68 d69 d70 d71 d72 d73 d74 d75 d76 d77 d78 d79 d80 d81 d82 d83 d84 d85 d86 d87 d88 d89 d90 d91 d92 d93 d94 d95 d96 d97 d98 d99 d100 d101 d102 d103 d104 d105 d106 d107 d108 d109 d110 d111 d112 d113 d114 d115 d116 d117 d118 d119 d120 d121 d122 d123 d124 d125 d126 d127 d128 d129 d130 d131 d132 d133 d134 d135 d136 d137 d138 d139 d140 d141 d142 d143 d144 d145 d146 d147 d148 d149 d150 d151 d152 d153 d154 d155 d156 d157 d158 d159 d160 d161 d162 d163 d164 d165 d166 d167 d168 d169 d170 d171 d172 d173 d174 d175 d176 d177 d178 d179 d180 d181 d182 d183 d184 d185 d186 d187 d188 d189 d190 d191 d192 d193 d194 d195 d196 d197 d198 d199 d200 d201 d202 d203 d204 d205 d206 d207 d208 w' hI
            refine hHand _ _ ?_
            go_roundg (n - (i + 1))
            case measure => omega
            case rel => exact ⟨i + 1, by omega, rfl, by go_num, hI⟩
        · rcases hu2 with hu | hu
          · refine r5a rfl hH hs hu ?_
            intro d6 d9 d10 d11 d12 d13 d14 d15 d16 d17 d18 d19 d29 d30 d31 d32 d33 d34 d35 d36 d37 d38 d39 d40 d41 d42 d43 d44 d45 d46 d47 d48 d49 d50 d51 d52 d53 d54 d55 d56 d57 d58 d59 d60 d61 d62 d63 d64 d65 d66 d67 d68 d69 d70 d71 d72 d73 d74 d75 d76 d77 d78 d79 d80 d81 d82 d83 d84 d85 d86 d87 d88 d89 d90 d91 d92 d93 d94 d95 d96 d97 d98 d99 d100 d101 d102 d103 d104 d105 d106 d107 d108 d109 d110 d111 d112 d113 d114 d115 d116 d117 d118 d119 d120 d121 d122 d123 d124 d125 d126 d127 d128 d129 d130 d131 d132 d133 d134 d135 d136 d137 d138 d139 d140 d141 d142 d143 d144 d145 d146 d147 d148 d149 d150 d151 d152 d153 d154 d155 d156 d157 d158 d159 d160 d161 d162 d163 d164 d165 d166 d167 d168 d169 d170 d171 d172 d173 d174 d175 d176 d177 d178 d179 d180 d181 d182 d183 d184 d185 d186 d187 d188 d189 d190 d191 d192 d193 d194 d195 d196 d197 d198 d199 d200 d201 d202 d203 d204 d205 d206 d207 d208 w' hI
            refine hHand _ _ ?_
            go_roundg (n - (i + 1))
            case measure => omega
            case rel => exact ⟨i + 1, by omega, rfl, by go_num, hI⟩
          · refine r5b rfl hH hs hu ?_
            intro d6 d9 d10 d11 d12 d13 d14 d15 d16 d17 d18 d19 d29 d30 d31 d32 d33 d34 d35 d36 d37 d38 d39 d40 d41 d42 d43 d44 d45 d46 d47 d48 d49 d50 d51 d52 d53 d54 d55 d56 d57 d58 d59 d60 d61 d62 d63 d64 d65 d66 d67 d68 d69 d70 d71 d72 d73 d74 d75 d76 d77 d78 d79 d80 d81 d82 d83 d84 d85 d86 d87 d88 d89 d90 d91 d92 d93 d94 d95 d96 d97 d98 d99 d100 d101 d102 d103 d104 d105 d106 d107 d108 d109 d110 d111 d112 d113 d114 d115 d116 d117 d118 d119 d120 d121 d122 d123 d124 d125 d126 d127 d128 d129 d130 d131 d132 d133 d134 d135 d136 d137 d138 d139 d140 d141 d142 d143 d144 d145 d146 d147 d148 d149 d150 d151 d152 d153 d154 d155 d156 d157 d158 d159 d160 d161 d162 d163 d164 d165 d166 d167 d168 d169 d170 d171 d172 d173 d174 d175 d176 d177 d178 d179 d180 d181 d182 d183 d184 d185 d186 d187 d188 d189 d190 d191 d192 d193 d194 d195 d196 d197 d198 d199 d200 d201 d202 d203 d204 d205 d206 d207 d208 w' hI
            refine hHand _ _ ?_
            go_roundg (n - (i + 1))
            case measure => omega
            case rel => exact ⟨i + 1, by omega, rfl, by go_num, hI⟩
      · have hin : i = n := by omega
        obtain ⟨ns, nw, tv, qv, L, Ds, Dw, WM, SM, hJ, hTw, hTs, hLl, hns, hnw⟩ := hinv
        have HJ := hid hJ
        have HLL := hid hLl
        clear hJ hTw hTs hLl hns hnw
        go_wp2_with fail
        refine (same_any r base base L u6 _ _ _ _ _ _ _ _ qv wr HJ.out.rd.blk HJ.out.rd.q HJ.out.wt (by have := HLL.out; omega)).mono ?_
        rintro e w4 ⟨rfl, hb4⟩
        have HJ4 := hid (HJ.out.below hb4)
        clear hb4 HJ
        have l37 := fun ty => HJ4.out.rd.jo.len Ybaf.underlying37 ty
        have l38 := fun ty => HJ4.out.rd.aw.len Ybaf.underlying38 ty
        rw [show Maps.size (DataW.map [] : DataW Unit) = 0 from rfl] at l37 l38
        obtain ⟨x0, x1, x2, x3, x4, x5, x6, x7, x8, x9, x10, fx⟩ := HJ4.out.rd.blk.cells11
        go_wp2_with fail
        go_ret
        exact ⟨rfl, by have := HJ4.out.bl; rw [HBS.out] at this; exact this⟩
end Go.Proofs.YbulkawpsFmt
