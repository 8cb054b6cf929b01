import Derived.Test.YbulkawpeRegions
/- A region of the law C-Earliest that draws its order, walked by itself (the frame written out in letters). -/
namespace Go.Proofs.Ybulkawpe
open Go.RowKit
set_option linter.unusedVariables false
set_option maxRecDepth 100000
set_option maxHeartbeats 20000000 in
theorem r46 {K : Act → World → Prop} {Q : Exit → Act → World → Prop} {C : Code} (hC : Yba.f3.body.bind (regionIn 46) = some C) {c2 c3 c4 c5 c6 c7 c8 c9 c10 c11 c13 c16 c17 c18 c19 c20 c21 c22 c23 c24 c26 c27 c28 c29 c30 c31 c32 c33 c34 c35 c36 c37 c38 c39 c40 c41 c42 c43 c44 c45 c46 c47 c48 c49 c50 c51 c52 c53 c54 c55 c56 c57 c58 c59 c60 c61 c62 c63 c64 c65 c66 c67 c68 c69 c70 c71 c72 c73 c74 c75 c76 c77 c78 c79 c80 c81 c82 c83 c84 c85 c86 c87 c88 c89 c90 c91 c92 c93 c94 c95 c96 c97 c98 c99 c100 c101 c102 c103 c104 c105 c106 c107 c108 c109 c110 c111 c112 c113 c114 c115 c116 c117 c118 c119 c120 c121 c122 c123 c124 c125 c126 c127 c128 c129 c130 c131 c132 c133 c134 c135 c136 c137 c138 c139 c140 c141 c142 c143 c144 c145 c146 c147 c148 c149 c150 c151 c152 c153 c154 c155 c156 c157 c158 c159 c160 c161 c162 c163 c164 c165 c166 c167 c168 c169 c170 c171 c172 c173 c174 c175 c176 c177 c178 c179 c180 c181 c182 c183 c184 c185 c186 c187 c188 c189 c190 c191 c192 c193 c194 c195 c196 c197 c198 c199 c200 c201 c202 c203 c204 c205 c206 c207 c208 c209 c210 c211 c212 c213 c214 c215 c216 c217 c218 c219 c220 c221 c222 c223 c224 c225 c226 c227 c228 c229 c230 c231 c232 c233 : Value} {w wr : World} {R S g : Int} {eps : List EpD} {us : List Int} {m n gc cc mb : Nat} {ea' : Option Addr} {ec' : Nat} {L6 : List Int} {Es : List Nat} {D : DataW Unit} (HR : Hid (I64 R)) (HS : Hid (I64 S))
    (H21 : Hid (Lw5 w wr R S g eps us m (.slice (some ⟨gc, 0, none⟩) L6.length cc) (.slice ea' n ec') L6 Es mb D))
    (hK : ∀ (v29 v209 v210 v211 v212 v213 v214 v215 v216 v217 : Value) (wx : World), (∃ Nb, v29 = .pointer (some ⟨Nb, 0, none⟩) ∧ Blk wx Nb #[.int .i64 0, .int .i64 0, .int .i64 0, .int .i64 1000, .float .f64 4611686018427387904, .int .i64 g, .int .i64 0, .int .i64 0, .int .i64 0, .int .i64 0, .int .i64 0, .int .i64 0, .int .i64 0, .int .i64 0, .pointer none, .pointer none, .int .u32 0, .int .u64 0, .int .i64 0, .pointer none, .int .u64 0, .int .i64 0, .pointer none, .slice none 0 0, .slice none 0 0, .nilFunc, .int .u64 (tN R), .int .i64 (tS R), .pointer none, .map (some mb), .slice ea' n ec', .slice none 0 0, .int .u8 0, .int .u8 0, .int .u8 0, .int .u8 0, .int .u8 0, .int .u8 0, .int .u8 0, .int .u8 0, .bool false, .int .u64 (tN S), .int .i64 (tS S), .pointer none] 92 ∧
                Lw5 w wx R S g eps us m (.slice (some ⟨gc, 0, none⟩) L6.length cc) (.slice ea' n ec') L6 Es mb D) → K ⟨#[(.int .i64 R), (.int .i64 S), c2, c3, c4, c5, c6, c7, c8, c9, c10, c11, (.pointer (some ⟨w.heap.size, 0, none⟩)), c13, (.slice (some ⟨gc, 0, none⟩) L6.length cc), (.slice ea' n ec'), c16, c17, c18, c19, c20, c21, c22, c23, c24, (.map (some mb)), c26, c27, c28, v29, c30, c31, c32, c33, c34, c35, c36, c37, c38, c39, c40, c41, c42, c43, c44, c45, c46, c47, c48, c49, c50, c51, c52, c53, c54, c55, c56, c57, c58, c59, c60, c61, c62, c63, c64, c65, c66, c67, c68, c69, c70, c71, c72, c73, c74, c75, c76, c77, c78, c79, c80, c81, c82, c83, c84, c85, c86, c87, c88, c89, c90, c91, c92, c93, c94, c95, c96, c97, c98, c99, c100, c101, c102, c103, c104, c105, c106, c107, c108, c109, c110, c111, c112, c113, c114, c115, c116, c117, c118, c119, c120, c121, c122, c123, c124, c125, c126, c127, c128, c129, c130, c131, c132, c133, c134, c135, c136, c137, c138, c139, c140, c141, c142, c143, c144, c145, c146, c147, c148, c149, c150, c151, c152, c153, c154, c155, c156, c157, c158, c159, c160, c161, c162, c163, c164, c165, c166, c167, c168, c169, c170, c171, c172, c173, c174, c175, c176, c177, c178, c179, c180, c181, c182, c183, c184, c185, c186, c187, c188, c189, c190, c191, c192, c193, c194, c195, c196, c197, c198, c199, c200, c201, c202, c203, c204, c205, c206, c207, c208, v209, v210, v211, v212, v213, v214, v215, v216, v217, c218, c219, c220, c221, c222, c223, c224, c225, c226, c227, c228, c229, c230, c231, c232, c233], []⟩ wx) :
    Code.wp Yba.prog C (Exit.then K Q) ⟨#[(.int .i64 R), (.int .i64 S), c2, c3, c4, c5, c6, c7, c8, c9, c10, c11, (.pointer (some ⟨w.heap.size, 0, none⟩)), c13, (.slice (some ⟨gc, 0, none⟩) L6.length cc), (.slice ea' n ec'), c16, c17, c18, c19, c20, c21, c22, c23, c24, (.map (some mb)), c26, c27, c28, c29, c30, c31, c32, c33, c34, c35, c36, c37, c38, c39, c40, c41, c42, c43, c44, c45, c46, c47, c48, c49, c50, c51, c52, c53, c54, c55, c56, c57, c58, c59, c60, c61, c62, c63, c64, c65, c66, c67, c68, c69, c70, c71, c72, c73, c74, c75, c76, c77, c78, c79, c80, c81, c82, c83, c84, c85, c86, c87, c88, c89, c90, c91, c92, c93, c94, c95, c96, c97, c98, c99, c100, c101, c102, c103, c104, c105, c106, c107, c108, c109, c110, c111, c112, c113, c114, c115, c116, c117, c118, c119, c120, c121, c122, c123, c124, c125, c126, c127, c128, c129, c130, c131, c132, c133, c134, c135, c136, c137, c138, c139, c140, c141, c142, c143, c144, c145, c146, c147, c148, c149, c150, c151, c152, c153, c154, c155, c156, c157, c158, c159, c160, c161, c162, c163, c164, c165, c166, c167, c168, c169, c170, c171, c172, c173, c174, c175, c176, c177, c178, c179, c180, c181, c182, c183, c184, c185, c186, c187, c188, c189, c190, c191, c192, c193, c194, c195, c196, c197, c198, c199, c200, c201, c202, c203, c204, c205, c206, c207, c208, c209, c210, c211, c212, c213, c214, c215, c216, c217, c218, c219, c220, c221, c222, c223, c224, c225, c226, c227, c228, c229, c230, c231, c232, c233], []⟩ wr := by
  obtain rfl : _ = C := Option.some.inj ((show Yba.f3.body.bind (regionIn 46) = some _ from rfl).symm.trans hC)
  clear hC
  refine Code.wp_mono (then_mono (Q := Q)) ?_
  obtain ⟨p0, p1, p2, p3, p4, p5, p6, p7, p8, p9, p10, p11, p12, p13, pf⟩ := H21.out.prof.cells14
  go_region_with (first
    | (go_at_call 5
       refine (at_any R _ HR.out.1 HR.out.2).mono ?_
       rintro e wa ⟨rfl, hba⟩
       have HLa : Hid (Lw5 w wa R S g eps us m (.slice (some ⟨gc, 0, none⟩) L6.length cc) (.slice ea' n ec') L6 Es mb D) := by
         first
           | exact HLb.out.quiet hba
           | exact H21.out.quiet ((Below.refl _ wr).drew.trans hba)
       clear hba
       obtain ⟨q0, q1, q2, q3, q4, q5, q6, q7, q8, q9, q10, q11, q12, q13, qf⟩ := HLa.out.prof.cells14)
    | (go_at_call 5
       refine (at_any S _ HS.out.1 HS.out.2).mono ?_
       rintro e wb ⟨rfl, hbb⟩
       have HLb : Hid (Lw5 w wb R S g eps us m (.slice (some ⟨gc, 0, none⟩) L6.length cc) (.slice ea' n ec') L6 Es mb D) := by
         first
           | exact HLa.out.quiet hbb
           | exact H21.out.quiet ((Below.refl _ wr).drew.trans hbb)
       clear hbb
       obtain ⟨r0, r1, r2, r3, r4, r5, r6, r7, r8, r9, r10, r11, r12, r13, rf⟩ := HLb.out.prof.cells14))
  all_goals (try go_wp2_with fail)
  all_goals (try refine hK _ _ _ _ _ _ _ _ _ _ _ ?_)
  all_goals first
    | exact ⟨_, rfl, Blk.new wa _ _, HLa.out.quiet ((Below.refl _ wa).alloc (Nat.le_refl _) _)⟩
    | exact ⟨_, rfl, Blk.new wb _ _, HLb.out.quiet ((Below.refl _ wb).alloc (Nat.le_refl _) _)⟩
end Go.Proofs.Ybulkawpe
