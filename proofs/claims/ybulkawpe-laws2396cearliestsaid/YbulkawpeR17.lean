import Derived.Test.YbulkawpeRegions
/- A region of the law C-Earliest that draws its order, walked by itself (the frame written out in letters). -/
namespace Go.Proofs.Ybulkawpe
open Go.RowKit
set_option linter.unusedVariables false
set_option maxRecDepth 100000
set_option maxHeartbeats 20000000 in
theorem r17 {K : Act → World → Prop} {Q : Exit → Act → World → Prop} {C : Code} (hC : Yba.f3.body.bind (regionIn 17) = some C) {c0 c1 c2 c3 c4 c5 c6 c7 c8 c9 c10 c11 c12 c13 c14 c15 c18 c19 c20 c21 c22 c23 c24 c25 c26 c27 c28 c29 c30 c31 c32 c33 c34 c35 c36 c37 c38 c39 c40 c41 c42 c43 c44 c45 c46 c47 c48 c49 c50 c51 c52 c53 c54 c55 c56 c57 c58 c59 c60 c61 c62 c63 c64 c65 c66 c67 c68 c69 c70 c71 c72 c73 c74 c75 c76 c77 c78 c79 c80 c81 c82 c83 c84 c85 c86 c87 c88 c89 c90 c91 c92 c93 c94 c95 c96 c97 c98 c99 c100 c101 c102 c103 c104 c105 c106 c107 c108 c109 c110 c111 c112 c113 c114 c115 c116 c117 c118 c119 c120 c121 c122 c123 c124 c125 c126 c127 c128 c129 c130 c131 c132 c133 c134 c135 c136 c137 c138 c139 c140 c141 c142 c143 c144 c145 c146 c147 c148 c149 c150 c151 c152 c153 c154 c155 c156 c157 c158 c159 c160 c161 c162 c163 c164 c165 c166 c167 c168 c169 c170 c171 c172 c173 c174 c175 c176 c177 c178 c179 c180 c181 c182 c183 c184 c185 c186 c187 c188 c189 c190 c191 c192 c193 c194 c195 c196 c197 c198 c199 c200 c201 c202 c203 c204 c205 c206 c207 c208 c209 c210 c211 c212 c213 c214 c215 c216 c217 c218 c219 c220 c221 c222 c223 c224 c225 c226 c227 c228 c229 c230 c231 c232 c233 : Value} {k : Nat} {wo : World} {d : EpD} {ra pa : Option Addr} {rc pc : Nat} (HIK : Hid (I64 d.keep)) (HIG : Hid (I64 d.greet)) (hk : k < 1000)
    (hK : ∀ (v18 v83 v84 v85 v86 v87 v88 v89 v90 v91 v92 v93 v94 v95 : Value) (wx : World), (∃ E TR id nv lv, v18 = .pointer (some ⟨E, 0, none⟩) ∧ wo.heap.size ≤ E ∧ wo.heap.size ≤ TR ∧ Blk wx E #[.int .u32 id, .pointer (some ⟨TR, 0, none⟩), .int .u64 (tN d.greet), .int .i64 (tS d.greet), .pointer none, .int .u64 (tN d.keep), .int .i64 (tS d.keep), .pointer none, .slice none 0 0, nv, .slice none 0 0, lv] 53 ∧
            Blk wx TR #[.int .i64 0, .int .i64 0, .int .i64 0, .pointer none, .int .i64 0, .int .u64 0, .int .i64 0, .pointer none, .int .u64 0, .int .i64 0, .pointer none, .int .i64 0, .bool false] 46 ∧ Blk wx wo.heap.size #[.int .i64 d.keep, .int .i64 d.greet, .slice ra d.reps.length rc, .slice pa d.peers.length pc] 25 ∧ Below wo.heap.size wo wx) → K ⟨#[c0, c1, c2, c3, c4, c5, c6, c7, c8, c9, c10, c11, c12, c13, c14, c15, (.int .i64 k), (.pointer (some ⟨wo.heap.size, 0, none⟩)), v18, c19, c20, c21, c22, c23, c24, c25, c26, c27, c28, c29, c30, c31, c32, c33, c34, c35, c36, c37, c38, c39, c40, c41, c42, c43, c44, c45, c46, c47, c48, c49, c50, c51, c52, c53, c54, c55, c56, c57, c58, c59, c60, c61, c62, c63, c64, c65, c66, c67, c68, c69, c70, c71, c72, c73, c74, c75, c76, c77, c78, c79, c80, c81, c82, v83, v84, v85, v86, v87, v88, v89, v90, v91, v92, v93, v94, v95, c96, c97, c98, c99, c100, c101, c102, c103, c104, c105, c106, c107, c108, c109, c110, c111, c112, c113, c114, c115, c116, c117, c118, c119, c120, c121, c122, c123, c124, c125, c126, c127, c128, c129, c130, c131, c132, c133, c134, c135, c136, c137, c138, c139, c140, c141, c142, c143, c144, c145, c146, c147, c148, c149, c150, c151, c152, c153, c154, c155, c156, c157, c158, c159, c160, c161, c162, c163, c164, c165, c166, c167, c168, c169, c170, c171, c172, c173, c174, c175, c176, c177, c178, c179, c180, c181, c182, c183, c184, c185, c186, c187, c188, c189, c190, c191, c192, c193, c194, c195, c196, c197, c198, c199, c200, c201, c202, c203, c204, c205, c206, c207, c208, c209, c210, c211, c212, c213, c214, c215, c216, c217, c218, c219, c220, c221, c222, c223, c224, c225, c226, c227, c228, c229, c230, c231, c232, c233], []⟩ wx) :
    Code.wp Yba.prog C (Exit.then K Q) ⟨#[c0, c1, c2, c3, c4, c5, c6, c7, c8, c9, c10, c11, c12, c13, c14, c15, (.int .i64 k), (.pointer (some ⟨wo.heap.size, 0, none⟩)), c18, c19, c20, c21, c22, c23, c24, c25, c26, c27, c28, c29, c30, c31, c32, c33, c34, c35, c36, c37, c38, c39, c40, c41, c42, c43, c44, c45, c46, c47, c48, c49, c50, c51, c52, c53, c54, c55, c56, c57, c58, c59, c60, c61, c62, c63, c64, c65, c66, c67, c68, c69, c70, c71, c72, c73, c74, c75, c76, c77, c78, c79, c80, c81, c82, c83, c84, c85, c86, c87, c88, c89, c90, c91, c92, c93, c94, c95, c96, c97, c98, c99, c100, c101, c102, c103, c104, c105, c106, c107, c108, c109, c110, c111, c112, c113, c114, c115, c116, c117, c118, c119, c120, c121, c122, c123, c124, c125, c126, c127, c128, c129, c130, c131, c132, c133, c134, c135, c136, c137, c138, c139, c140, c141, c142, c143, c144, c145, c146, c147, c148, c149, c150, c151, c152, c153, c154, c155, c156, c157, c158, c159, c160, c161, c162, c163, c164, c165, c166, c167, c168, c169, c170, c171, c172, c173, c174, c175, c176, c177, c178, c179, c180, c181, c182, c183, c184, c185, c186, c187, c188, c189, c190, c191, c192, c193, c194, c195, c196, c197, c198, c199, c200, c201, c202, c203, c204, c205, c206, c207, c208, c209, c210, c211, c212, c213, c214, c215, c216, c217, c218, c219, c220, c221, c222, c223, c224, c225, c226, c227, c228, c229, c230, c231, c232, c233], []⟩ (wo.alloc (.cells #[.int .i64 d.keep, .int .i64 d.greet, .slice ra d.reps.length rc, .slice pa d.peers.length pc] 25)) := by
  obtain rfl : _ = C := Option.some.inj ((show Yba.f3.body.bind (regionIn 17) = some _ from rfl).symm.trans hC)
  clear hC
  refine Code.wp_mono (then_mono (Q := Q)) ?_
  go_region_with (first
    | (go_at_call 5; refine (at_any d.keep _ HIK.out.1 HIK.out.2).mono ?_; rintro e wa ⟨rfl, hba⟩
       have q1 : wa.cell? ⟨wo.heap.size, 1, none⟩ = some (.int .i64 d.greet) := (hba.cell (p := ⟨wo.heap.size, 1, none⟩) (by simp <;> omega)).trans (by simp)
       have l1 : wo.heap.size < wa.heap.size := World.block_lt_of_cell? _ _ q1)
    | (go_at_call 5; refine (at_any d.greet _ HIG.out.1 HIG.out.2).mono ?_; rintro e wb ⟨rfl, hbb⟩))
  all_goals (try go_wp2_with fail)
  all_goals (try refine hK _ _ _ _ _ _ _ _ _ _ _ _ _ _ _ ?_)
  all_goals
    have s1 := hba.size
    have s2 := hbb.size
    simp at s1 s2
    refine ⟨_, _, _, _, _, rfl, ?_, ?_, Blk.new' (by simp), ?_, ?_, ?_⟩
    · omega
    · omega
    · first
        | exact ((((Blk.new' (by simp)).drew.below hba (by simp)).below hbb (by omega)).alloc _)
        | exact (((Blk.new wa _ _).below hbb (by simp)).alloc _)
        | exact ((Blk.new wb _ _).alloc _)
    · first
        | exact (((((Blk.new wo _ _).alloc _).drew.below hba (by simp; omega)).below hbb (by omega)).alloc _)
        | exact (((((Blk.new wo _ _).drew.below hba (by simp)).alloc _).below hbb (by simp; omega)).alloc _)
        | exact (((((Blk.new wo _ _).drew.below hba (by simp)).below hbb (by omega)).alloc _).alloc _)
    · first
        | exact ((((((Below.refl _ wo).alloc (Nat.le_refl _) _).alloc (by simp) _).drew.trans (hba.mono (by simp; omega))).trans (hbb.mono (by omega))).alloc (by omega) _)
        | exact ((((((Below.refl _ wo).alloc (Nat.le_refl _) _).drew.trans (hba.mono (by simp))).alloc (by omega) _).trans (hbb.mono (by simp; omega))).alloc (by omega) _)
        | exact ((((((Below.refl _ wo).alloc (Nat.le_refl _) _).drew.trans (hba.mono (by simp))).trans (hbb.mono (by omega))).alloc (by omega) _).alloc (by simp; omega) _)
end Go.Proofs.Ybulkawpe
