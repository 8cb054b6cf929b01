import Derived.Test.YbulkawpsFmtSteps
import Derived.Deep.LoopGhost
import Derived.Deep.DeepCutAuto
/- Rounds of the law C-Script's loop, one theorem a case; written by a program. -/
namespace Go.Proofs.YbulkawpsFmt
open Go.RowKit
set_option linter.unusedVariables false
set_option maxRecDepth 100000
set_option maxHeartbeats 4000000 in
theorem r2a {w wr : World} {base r ms mw mj ma a4 a7 a8 n i b o sh su th op ti xi ns nw c : Nat} {tv qv c6 : Value} {L : List It} {Ds Dw : DataW Unit} {WM SM : Nat → Bool} {K : Act → World → Prop} {Q0 : Exit → Act → World → Prop} {C : Code} (hC : Ybaf.f5.body.bind firstLoop = some C) {c1 c2 c9 c10 c11 c12 c13 c14 c15 c16 c17 c18 c19 c20 c21 c22 c23 c24 c25 c29 c30 c31 c32 c33 c34 c35 c36 c37 c38 c39 c40 c41 c42 c43 c44 c45 c46 c47 c48 c49 c50 c51 c52 c53 c54 c55 c56 c57 c58 c59 c60 c61 c62 c63 c64 c65 c66 c67 c68 c69 c70 c71 c72 c73 c74 c75 c76 c77 c78 c79 c80 c81 c82 c83 c84 c85 c86 c87 c88 c89 c90 c91 c92 c93 c94 c95 c96 c97 c98 c99 c100 c101 c102 c103 c104 c105 c106 c107 c108 c109 c110 c111 c112 c113 c114 c115 c116 c117 c118 c119 c120 c121 c122 c123 c124 c125 c126 c127 c128 c129 c130 c131 c132 c133 c134 c135 c136 c137 c138 c139 c140 c141 c142 c143 c144 c145 c146 c147 c148 c149 c150 c151 c152 c153 c154 c155 c156 c157 c158 c159 c160 c161 c162 c163 c164 c165 c166 c167 c168 c169 c170 c171 c172 c173 c174 c175 c176 c177 c178 c179 c180 c181 c182 c183 c184 c185 c186 c187 c188 c189 c190 c191 c192 c193 c194 c195 c196 c197 c198 c199 c200 c201 c202 c203 c204 c205 c206 c207 c208 c209 c210 c211 c212 c213 c214 c215 c216 c217 c218 c219 c220 c221 c222 c223 c224 c225 c226 c227 : Value} (H : Hd w wr base r ms mw mj ma a4 a7 a8 n i b o sh su th op ti xi ns nw tv qv c6 L Ds Dw WM SM) (hs : sh % 6 = 2) (hu : su % 2 = 0)
    (hK : ∀ (d6 d9 d10 d11 d12 d13 d14 d15 d16 d17 d18 d19 d29 d30 d31 d32 d33 d34 d35 d36 d37 d38 d39 d40 d41 d42 d43 d44 d45 d46 d47 d48 d49 d50 d51 d52 d53 d54 d55 d56 d57 d58 d59 d60 d61 d62 d63 d64 d65 d66 d67 d68 d69 d70 d71 d72 d73 d74 d75 d76 d77 d78 d79 d80 d81 d82 d83 d84 d85 d86 d87 d88 d89 d90 d91 d92 d93 d94 d95 d96 d97 d98 d99 d100 d101 d102 d103 d104 d105 d106 d107 d108 d109 d110 d111 d112 d113 d114 d115 d116 d117 d118 d119 d120 d121 d122 d123 d124 d125 d126 d127 d128 d129 d130 d131 d132 d133 d134 d135 d136 d137 d138 d139 d140 d141 d142 d143 d144 d145 d146 d147 d148 d149 d150 d151 d152 d153 d154 d155 d156 d157 d158 d159 d160 d161 d162 d163 d164 d165 d166 d167 d168 d169 d170 d171 d172 d173 d174 d175 d176 d177 d178 d179 d180 d181 d182 d183 d184 d185 d186 d187 d188 d189 d190 d191 d192 d193 d194 d195 d196 d197 d198 d199 d200 d201 d202 d203 d204 d205 d206 d207 d208 : Value) (w' : World), Inv w w' base r ms mw mj ma base a4 a7 a8 (i + 1) d6 → K ⟨#[.slice (some ⟨b, o, none⟩) n c, c1, c2, .pointer (some ⟨base, 0, none⟩), .pointer (some ⟨a4, 0, none⟩), .pointer (some ⟨r, 0, none⟩), d6, .pointer (some ⟨a7, 0, none⟩), .pointer (some ⟨a8, 0, none⟩), d9, d10, d11, d12, d13, d14, d15, d16, d17, d18, d19, c20, c21, c22, c23, c24, c25, .slice (some ⟨b, o, none⟩) n c, .int .i64 n, .int .i64 ((i : Int) + 1), d29, d30, d31, d32, d33, d34, d35, d36, d37, d38, d39, d40, d41, d42, d43, d44, d45, d46, d47, d48, d49, d50, d51, d52, d53, d54, d55, d56, d57, d58, d59, d60, d61, d62, d63, d64, d65, d66, d67, d68, d69, d70, d71, d72, d73, d74, d75, d76, d77, d78, d79, d80, d81, d82, d83, d84, d85, d86, d87, d88, d89, d90, d91, d92, d93, d94, d95, d96, d97, d98, d99, d100, d101, d102, d103, d104, d105, d106, d107, d108, d109, d110, d111, d112, d113, d114, d115, d116, d117, d118, d119, d120, d121, d122, d123, d124, d125, d126, d127, d128, d129, d130, d131, d132, d133, d134, d135, d136, d137, d138, d139, d140, d141, d142, d143, d144, d145, d146, d147, d148, d149, d150, d151, d152, d153, d154, d155, d156, d157, d158, d159, d160, d161, d162, d163, d164, d165, d166, d167, d168, d169, d170, d171, d172, d173, d174, d175, d176, d177, d178, d179, d180, d181, d182, d183, d184, d185, d186, d187, d188, d189, d190, d191, d192, d193, d194, d195, d196, d197, d198, d199, d200, d201, d202, d203, d204, d205, d206, d207, d208, c209, c210, c211, c212, c213, c214, c215, c216, c217, c218, c219, c220, c221, c222, c223, c224, c225, c226, c227], []⟩ w') :
    Code.wp Ybaf.prog C (Exit.then K Q0) ⟨#[.slice (some ⟨b, o, none⟩) n c, c1, c2, .pointer (some ⟨base, 0, none⟩), .pointer (some ⟨a4, 0, none⟩), .pointer (some ⟨r, 0, none⟩), c6, .pointer (some ⟨a7, 0, none⟩), .pointer (some ⟨a8, 0, none⟩), c9, c10, c11, c12, c13, c14, c15, c16, c17, c18, c19, c20, c21, c22, c23, c24, c25, .slice (some ⟨b, o, none⟩) n c, .int .i64 n, .int .i64 i, c29, c30, c31, c32, c33, c34, c35, c36, c37, c38, c39, c40, c41, c42, c43, c44, c45, c46, c47, c48, c49, c50, c51, c52, c53, c54, c55, c56, c57, c58, c59, c60, c61, c62, c63, c64, c65, c66, c67, c68, c69, c70, c71, c72, c73, c74, c75, c76, c77, c78, c79, c80, c81, c82, c83, c84, c85, c86, c87, c88, c89, c90, c91, c92, c93, c94, c95, c96, c97, c98, c99, c100, c101, c102, c103, c104, c105, c106, c107, c108, c109, c110, c111, c112, c113, c114, c115, c116, c117, c118, c119, c120, c121, c122, c123, c124, c125, c126, c127, c128, c129, c130, c131, c132, c133, c134, c135, c136, c137, c138, c139, c140, c141, c142, c143, c144, c145, c146, c147, c148, c149, c150, c151, c152, c153, c154, c155, c156, c157, c158, c159, c160, c161, c162, c163, c164, c165, c166, c167, c168, c169, c170, c171, c172, c173, c174, c175, c176, c177, c178, c179, c180, c181, c182, c183, c184, c185, c186, c187, c188, c189, c190, c191, c192, c193, c194, c195, c196, c197, c198, c199, c200, c201, c202, c203, c204, c205, c206, c207, c208, c209, c210, c211, c212, c213, c214, c215, c216, c217, c218, c219, c220, c221, c222, c223, c224, c225, c226, c227], []⟩ wr := by
  obtain rfl : _ = C := Option.some.inj ((show Ybaf.f5.body.bind firstLoop = some _ from rfl).symm.trans hC)
  clear hC
  obtain ⟨hJ, hTw, hTs, hLl, hns, hnw, hNU, y0, y1, y2, y3, q0, q1, q2, q3, eti, exi, hti3, hxi3, hlt, hn'⟩ := H
  have HJ := hid hJ
  have HTW := hid hTw
  have HTS := hid hTs
  have HLL := hid hLl
  have HNS := hid hns
  have HNW := hid hnw
  have HNU := hid hNU
  clear hJ hTw hTs hLl hns hnw hNU
  obtain ⟨t, ht⟩ := th_get ti hti3
  obtain ⟨x, hx⟩ := va_get xi hxi3
  go_upto_region 15 with fail
  have eti : ((th : Int) % 3) = (ti : Int) := by omega
  have exi : ((op : Int) % 3) = (xi : Int) := by omega
  simp only [eti, exi]
  have HJ1 := hid (HJ.out.below ((Below.refl _ wr).alloc (Nat.le_refl _) (.cells #[.int .u8 sh, .int .u8 su, .int .u8 th, .int .u8 op] 53)))
  obtain ⟨z0, z1, z2, z3, zf⟩ := (Blk.new wr #[.int .u8 sh, .int .u8 su, .int .u8 th, .int .u8 op] 53).cells4
  generalize (wr.alloc (.cells #[.int .u8 sh, .int .u8 su, .int .u8 th, .int .u8 op] 53)) = w1 at HJ1 z0 z1 z2 z3 zf ⊢
  clear HJ y0 y1 y2 y3
  have tc := (HJ1.out.th.cell ti).trans (th_arr ht)
  go_upto_region 23 with fail
  have HT := hid (th_size ht)
  have HTg := hid ht
  have htz : 1 + t.size ≤ 9223372036854775807 := by rw [HT.out]; decide
  clear eti exi tc z0 z1 z2 z3 zf q2 q3 ht
  obtain ⟨lz, hlz⟩ : ∃ z, (⟨#[76]⟩ ++ t : ByteArray) = z := ⟨_, rfl⟩
  have HLZ : Hid (lz.size = 2) := by rw [Hid, ← hlz, ByteArray.size_append, HT.out]; rfl
  have HXth := hid (th_get xi hxi3)
  have HXg := hid hx
  have HX := hid (va_size hx)
  clear hx
  have e6 : ((sh : Int) % 6) = 2 := by omega
  simp only [e6]
  clear hs e6 q0
  have e2 : ((su : Int) % 2) = 0 := by omega
  simp only [e2]
  clear hu e2 q1
  have tc := (HJ1.out.vr.cell xi).trans (va_arr HXg.out)
  go_wp2_with fail
  refine (line_all 2 3 t x (⟨#[]⟩) w1 HT.out (by rw [HX.out]; decide) (by decide)).mono ?_
  rintro e w2 ⟨na, nl, nc, ag, an, ac, tg, tc', oa, on, oc, la, ln, lc, rfl, han, hA, hT, hO, hL, hb2⟩
  have HJ2 := hid (HJ1.out.below hb2)
  have HA := hid hA
  have HTb := hid hT
  have HOb := hid hO
  have HLb := hid hL
  have HAN := hid han
  clear hA hT hO hL hb2 HJ1 han
  go_wp2_with fail
  clear tc
  refine (place2 base r ms mw mj ma ns nw w1.heap.size tv qv L Ds Dw 3 ((i : Int) + 1) (.bool true) (.bool true) t ⟨#[97, 99, 113]⟩ na oa la nl nc tg tc' ac on oc ln lc an (some ⟨ag, 0, none⟩) (opOf 2 (x : ByteArray).data.toList) (locOf 2 (⟨#[]⟩ : ByteArray).data.toList) w2 HJ2.out.rd HJ2.out.nm HT.out (by decide) (by decide) rfl (by simp [opOf]; exact Nat.le_of_eq HX.out) (by simp [locOf]) HNU.out.b0 (by have := HLL.out; omega) x (⟨#[]⟩) (by simp [tOf, opOf]) (by simp [locOf]) HTb.out HOb.out HLb.out).mono ?_
  rintro e w3 ⟨rfl, tv3, qv3, hR3, fr3, hg3⟩
  have HJ3 := hid (HJ2.out.place HNU.out hR3 (fr_place fr3) hg3)
  clear hR3 fr3 hg3 HJ2 HA HTb HOb HLb HAN
  have HLW : Hid (L.length ≤ 2 * i) := HLL.out
  have tc := (HJ3.out.vr.cell xi).trans (va_arr HXg.out)
  go_wp2_with fail
  refine (want_any ((i : Int) + 1) t x (⟨#[]⟩) ⟨#[97, 99, 113]⟩ 3 w3 HT.out (by rw [HX.out]; decide) (by decide) (by decide) (by decide) rfl).mono ?_
  rintro e w4 ⟨rfl, hb4⟩
  have HJ4 := hid (HJ3.out.below hb4)
  clear hb4 HJ3 tc
  obtain ⟨it, hit⟩ : ∃ z, evItem ((i : Int) + 1) t ⟨#[97, 99, 113]⟩ x (⟨#[]⟩) 3 = z := ⟨_, rfl⟩
  have Hit := hid hit
  rw [hit]
  clear hit
  simp only [It.v]
  have HJa4 := hid (HJ4.out.below ((Below.refl _ w4).alloc (Nat.le_refl _) (.cells #[.string it.text, .int .i64 it.line, .int .u32 it.at_, .int .u32 it.en, .int .u8 it.op, .int .u8 it.st] 30)))
  go_wp2_with (first
    | (at_builtin
       refine wpList_want rfl (.tmp 135) (.tmp 143) rfl HJa4.out HNU.out it w4.heap.size rfl rfl (by exact Blk.new _ _ _) (by have := HLW.out; simp at this ⊢; omega) ?_
       intro g5 cap5 m5 w5 hm5 hJ5
       have HJ5 := hid hJ5
       clear hJ5 hm5 HJa4 HJ4))
  have hJf := HJ5.out
  rw [Hit.out] at hJf
  exact ⟨ns, nw, _, _, L ++ [it], _, _, _, _, hJf, HTW.out, HTS.out, by have := HLL.out; simp; omega, by have := HNS.out; omega, by have := HNW.out; omega⟩
set_option maxHeartbeats 4000000 in
theorem r2b {w wr : World} {base r ms mw mj ma a4 a7 a8 n i b o sh su th op ti xi ns nw c : Nat} {tv qv c6 : Value} {L : List It} {Ds Dw : DataW Unit} {WM SM : Nat → Bool} {K : Act → World → Prop} {Q0 : Exit → Act → World → Prop} {C : Code} (hC : Ybaf.f5.body.bind firstLoop = some C) {c1 c2 c9 c10 c11 c12 c13 c14 c15 c16 c17 c18 c19 c20 c21 c22 c23 c24 c25 c29 c30 c31 c32 c33 c34 c35 c36 c37 c38 c39 c40 c41 c42 c43 c44 c45 c46 c47 c48 c49 c50 c51 c52 c53 c54 c55 c56 c57 c58 c59 c60 c61 c62 c63 c64 c65 c66 c67 c68 c69 c70 c71 c72 c73 c74 c75 c76 c77 c78 c79 c80 c81 c82 c83 c84 c85 c86 c87 c88 c89 c90 c91 c92 c93 c94 c95 c96 c97 c98 c99 c100 c101 c102 c103 c104 c105 c106 c107 c108 c109 c110 c111 c112 c113 c114 c115 c116 c117 c118 c119 c120 c121 c122 c123 c124 c125 c126 c127 c128 c129 c130 c131 c132 c133 c134 c135 c136 c137 c138 c139 c140 c141 c142 c143 c144 c145 c146 c147 c148 c149 c150 c151 c152 c153 c154 c155 c156 c157 c158 c159 c160 c161 c162 c163 c164 c165 c166 c167 c168 c169 c170 c171 c172 c173 c174 c175 c176 c177 c178 c179 c180 c181 c182 c183 c184 c185 c186 c187 c188 c189 c190 c191 c192 c193 c194 c195 c196 c197 c198 c199 c200 c201 c202 c203 c204 c205 c206 c207 c208 c209 c210 c211 c212 c213 c214 c215 c216 c217 c218 c219 c220 c221 c222 c223 c224 c225 c226 c227 : Value} (H : Hd w wr base r ms mw mj ma a4 a7 a8 n i b o sh su th op ti xi ns nw tv qv c6 L Ds Dw WM SM) (hs : sh % 6 = 2) (hu : su % 2 = 1)
    (hK : ∀ (d6 d9 d10 d11 d12 d13 d14 d15 d16 d17 d18 d19 d29 d30 d31 d32 d33 d34 d35 d36 d37 d38 d39 d40 d41 d42 d43 d44 d45 d46 d47 d48 d49 d50 d51 d52 d53 d54 d55 d56 d57 d58 d59 d60 d61 d62 d63 d64 d65 d66 d67 d68 d69 d70 d71 d72 d73 d74 d75 d76 d77 d78 d79 d80 d81 d82 d83 d84 d85 d86 d87 d88 d89 d90 d91 d92 d93 d94 d95 d96 d97 d98 d99 d100 d101 d102 d103 d104 d105 d106 d107 d108 d109 d110 d111 d112 d113 d114 d115 d116 d117 d118 d119 d120 d121 d122 d123 d124 d125 d126 d127 d128 d129 d130 d131 d132 d133 d134 d135 d136 d137 d138 d139 d140 d141 d142 d143 d144 d145 d146 d147 d148 d149 d150 d151 d152 d153 d154 d155 d156 d157 d158 d159 d160 d161 d162 d163 d164 d165 d166 d167 d168 d169 d170 d171 d172 d173 d174 d175 d176 d177 d178 d179 d180 d181 d182 d183 d184 d185 d186 d187 d188 d189 d190 d191 d192 d193 d194 d195 d196 d197 d198 d199 d200 d201 d202 d203 d204 d205 d206 d207 d208 : Value) (w' : World), Inv w w' base r ms mw mj ma base a4 a7 a8 (i + 1) d6 → K ⟨#[.slice (some ⟨b, o, none⟩) n c, c1, c2, .pointer (some ⟨base, 0, none⟩), .pointer (some ⟨a4, 0, none⟩), .pointer (some ⟨r, 0, none⟩), d6, .pointer (some ⟨a7, 0, none⟩), .pointer (some ⟨a8, 0, none⟩), d9, d10, d11, d12, d13, d14, d15, d16, d17, d18, d19, c20, c21, c22, c23, c24, c25, .slice (some ⟨b, o, none⟩) n c, .int .i64 n, .int .i64 ((i : Int) + 1), d29, d30, d31, d32, d33, d34, d35, d36, d37, d38, d39, d40, d41, d42, d43, d44, d45, d46, d47, d48, d49, d50, d51, d52, d53, d54, d55, d56, d57, d58, d59, d60, d61, d62, d63, d64, d65, d66, d67, d68, d69, d70, d71, d72, d73, d74, d75, d76, d77, d78, d79, d80, d81, d82, d83, d84, d85, d86, d87, d88, d89, d90, d91, d92, d93, d94, d95, d96, d97, d98, d99, d100, d101, d102, d103, d104, d105, d106, d107, d108, d109, d110, d111, d112, d113, d114, d115, d116, d117, d118, d119, d120, d121, d122, d123, d124, d125, d126, d127, d128, d129, d130, d131, d132, d133, d134, d135, d136, d137, d138, d139, d140, d141, d142, d143, d144, d145, d146, d147, d148, d149, d150, d151, d152, d153, d154, d155, d156, d157, d158, d159, d160, d161, d162, d163, d164, d165, d166, d167, d168, d169, d170, d171, d172, d173, d174, d175, d176, d177, d178, d179, d180, d181, d182, d183, d184, d185, d186, d187, d188, d189, d190, d191, d192, d193, d194, d195, d196, d197, d198, d199, d200, d201, d202, d203, d204, d205, d206, d207, d208, c209, c210, c211, c212, c213, c214, c215, c216, c217, c218, c219, c220, c221, c222, c223, c224, c225, c226, c227], []⟩ w') :
    Code.wp Ybaf.prog C (Exit.then K Q0) ⟨#[.slice (some ⟨b, o, none⟩) n c, c1, c2, .pointer (some ⟨base, 0, none⟩), .pointer (some ⟨a4, 0, none⟩), .pointer (some ⟨r, 0, none⟩), c6, .pointer (some ⟨a7, 0, none⟩), .pointer (some ⟨a8, 0, none⟩), c9, c10, c11, c12, c13, c14, c15, c16, c17, c18, c19, c20, c21, c22, c23, c24, c25, .slice (some ⟨b, o, none⟩) n c, .int .i64 n, .int .i64 i, c29, c30, c31, c32, c33, c34, c35, c36, c37, c38, c39, c40, c41, c42, c43, c44, c45, c46, c47, c48, c49, c50, c51, c52, c53, c54, c55, c56, c57, c58, c59, c60, c61, c62, c63, c64, c65, c66, c67, c68, c69, c70, c71, c72, c73, c74, c75, c76, c77, c78, c79, c80, c81, c82, c83, c84, c85, c86, c87, c88, c89, c90, c91, c92, c93, c94, c95, c96, c97, c98, c99, c100, c101, c102, c103, c104, c105, c106, c107, c108, c109, c110, c111, c112, c113, c114, c115, c116, c117, c118, c119, c120, c121, c122, c123, c124, c125, c126, c127, c128, c129, c130, c131, c132, c133, c134, c135, c136, c137, c138, c139, c140, c141, c142, c143, c144, c145, c146, c147, c148, c149, c150, c151, c152, c153, c154, c155, c156, c157, c158, c159, c160, c161, c162, c163, c164, c165, c166, c167, c168, c169, c170, c171, c172, c173, c174, c175, c176, c177, c178, c179, c180, c181, c182, c183, c184, c185, c186, c187, c188, c189, c190, c191, c192, c193, c194, c195, c196, c197, c198, c199, c200, c201, c202, c203, c204, c205, c206, c207, c208, c209, c210, c211, c212, c213, c214, c215, c216, c217, c218, c219, c220, c221, c222, c223, c224, c225, c226, c227], []⟩ wr := by
  obtain rfl : _ = C := Option.some.inj ((show Ybaf.f5.body.bind firstLoop = some _ from rfl).symm.trans hC)
  clear hC
  obtain ⟨hJ, hTw, hTs, hLl, hns, hnw, hNU, y0, y1, y2, y3, q0, q1, q2, q3, eti, exi, hti3, hxi3, hlt, hn'⟩ := H
  have HJ := hid hJ
  have HTW := hid hTw
  have HTS := hid hTs
  have HLL := hid hLl
  have HNS := hid hns
  have HNW := hid hnw
  have HNU := hid hNU
  clear hJ hTw hTs hLl hns hnw hNU
  obtain ⟨t, ht⟩ := th_get ti hti3
  obtain ⟨x, hx⟩ := va_get xi hxi3
  go_upto_region 15 with fail
  have eti : ((th : Int) % 3) = (ti : Int) := by omega
  have exi : ((op : Int) % 3) = (xi : Int) := by omega
  simp only [eti, exi]
  have HJ1 := hid (HJ.out.below ((Below.refl _ wr).alloc (Nat.le_refl _) (.cells #[.int .u8 sh, .int .u8 su, .int .u8 th, .int .u8 op] 53)))
  obtain ⟨z0, z1, z2, z3, zf⟩ := (Blk.new wr #[.int .u8 sh, .int .u8 su, .int .u8 th, .int .u8 op] 53).cells4
  generalize (wr.alloc (.cells #[.int .u8 sh, .int .u8 su, .int .u8 th, .int .u8 op] 53)) = w1 at HJ1 z0 z1 z2 z3 zf ⊢
  clear HJ y0 y1 y2 y3
  have tc := (HJ1.out.th.cell ti).trans (th_arr ht)
  go_upto_region 23 with fail
  have HT := hid (th_size ht)
  have HTg := hid ht
  have htz : 1 + t.size ≤ 9223372036854775807 := by rw [HT.out]; decide
  clear eti exi tc z0 z1 z2 z3 zf q2 q3 ht
  obtain ⟨lz, hlz⟩ : ∃ z, (⟨#[76]⟩ ++ t : ByteArray) = z := ⟨_, rfl⟩
  have HLZ : Hid (lz.size = 2) := by rw [Hid, ← hlz, ByteArray.size_append, HT.out]; rfl
  have HXth := hid (th_get xi hxi3)
  have HXg := hid hx
  have HX := hid (va_size hx)
  clear hx
  have e6 : ((sh : Int) % 6) = 2 := by omega
  simp only [e6]
  clear hs e6 q0
  have e2 : ((su : Int) % 2) = 1 := by omega
  simp only [e2]
  clear hu e2 q1
  have tc := (HJ1.out.vr.cell xi).trans (va_arr HXg.out)
  go_wp2_with fail
  refine (line_all 2 4 t x (⟨#[]⟩) w1 HT.out (by rw [HX.out]; decide) (by decide)).mono ?_
  rintro e w2 ⟨na, nl, nc, ag, an, ac, tg, tc', oa, on, oc, la, ln, lc, rfl, han, hA, hT, hO, hL, hb2⟩
  have HJ2 := hid (HJ1.out.below hb2)
  have HA := hid hA
  have HTb := hid hT
  have HOb := hid hO
  have HLb := hid hL
  have HAN := hid han
  clear hA hT hO hL hb2 HJ1 han
  go_wp2_with fail
  clear tc
  refine (place2 base r ms mw mj ma ns nw w1.heap.size tv qv L Ds Dw 4 ((i : Int) + 1) (.bool true) (.bool true) t ⟨#[114, 101, 108]⟩ na oa la nl nc tg tc' ac on oc ln lc an (some ⟨ag, 0, none⟩) (opOf 2 (x : ByteArray).data.toList) (locOf 2 (⟨#[]⟩ : ByteArray).data.toList) w2 HJ2.out.rd HJ2.out.nm HT.out (by decide) (by decide) rfl (by simp [opOf]; exact Nat.le_of_eq HX.out) (by simp [locOf]) HNU.out.b0 (by have := HLL.out; omega) x (⟨#[]⟩) (by simp [tOf, opOf]) (by simp [locOf]) HTb.out HOb.out HLb.out).mono ?_
  rintro e w3 ⟨rfl, tv3, qv3, hR3, fr3, hg3⟩
  have HJ3 := hid (HJ2.out.place HNU.out hR3 (fr_place fr3) hg3)
  clear hR3 fr3 hg3 HJ2 HA HTb HOb HLb HAN
  have HLW : Hid (L.length ≤ 2 * i) := HLL.out
  have tc := (HJ3.out.vr.cell xi).trans (va_arr HXg.out)
  go_wp2_with fail
  refine (want_any ((i : Int) + 1) t x (⟨#[]⟩) ⟨#[114, 101, 108]⟩ 4 w3 HT.out (by rw [HX.out]; decide) (by decide) (by decide) (by decide) rfl).mono ?_
  rintro e w4 ⟨rfl, hb4⟩
  have HJ4 := hid (HJ3.out.below hb4)
  clear hb4 HJ3 tc
  obtain ⟨it, hit⟩ : ∃ z, evItem ((i : Int) + 1) t ⟨#[114, 101, 108]⟩ x (⟨#[]⟩) 4 = z := ⟨_, rfl⟩
  have Hit := hid hit
  rw [hit]
  clear hit
  simp only [It.v]
  have HJa4 := hid (HJ4.out.below ((Below.refl _ w4).alloc (Nat.le_refl _) (.cells #[.string it.text, .int .i64 it.line, .int .u32 it.at_, .int .u32 it.en, .int .u8 it.op, .int .u8 it.st] 30)))
  go_wp2_with (first
    | (at_builtin
       refine wpList_want rfl (.tmp 135) (.tmp 143) rfl HJa4.out HNU.out it w4.heap.size rfl rfl (by exact Blk.new _ _ _) (by have := HLW.out; simp at this ⊢; omega) ?_
       intro g5 cap5 m5 w5 hm5 hJ5
       have HJ5 := hid hJ5
       clear hJ5 hm5 HJa4 HJ4))
  have hJf := HJ5.out
  rw [Hit.out] at hJf
  exact ⟨ns, nw, _, _, L ++ [it], _, _, _, _, hJf, HTW.out, HTS.out, by have := HLL.out; simp; omega, by have := HNS.out; omega, by have := HNW.out; omega⟩
end Go.Proofs.YbulkawpsFmt
