/-
  A new section, in a region that draws its order: two new blocks in either order. PRINTED BY wip/gen_reg.py OF THIS REPOSITORY.
-/
import Derived.Test.YtfakghnpkdoclaaDoorReg17
set_option linter.unusedVariables false
set_option linter.unusedSimpArgs false
namespace Go.Proofs.YtfakghnpkdoclaaDoor
open Go.RowKit


/-- a new section in new blocks -/
def NewSe (w w' : World) (nb : ByteArray) (inv : Bool) (line : Int) (b2 g2 : Nat) : Prop :=
  F0 w w' ∧ w'.heap[b2]? = some (.cells #[.string nb, .bool inv, .int .i64 line, .slice (some ⟨g2, 0, none⟩) 0 0] 93 (0, 0)) ∧ w'.heap[g2]? = some (.cells #[] 20 (0, 0)) ∧ w.heap.size ≤ b2 ∧ w.heap.size ≤ g2 ∧ b2 ≠ g2
theorem newSe_a (w : World) (nb : ByteArray) (inv : Bool) (line : Int) : NewSe w ((w.alloc (.cells #[] 20)).alloc (.cells #[.string nb, .bool inv, .int .i64 line, .slice (some ⟨w.heap.size, 0, none⟩) 0 0] 93)).drew nb inv line (w.heap.size + 1) w.heap.size := by
  refine ⟨(fr_two _ _ _).trans (Fr.drew _ _), ?_, blk_alloc _ (blk_new _ _), by omega, by omega, by omega⟩
  have := blk_new (w.alloc (.cells #[] 20)) (.cells #[.string nb, .bool inv, .int .i64 line, .slice (some ⟨w.heap.size, 0, none⟩) 0 0] 93)
  simp only [World.size_alloc] at this
  exact this
theorem newSe_b (w : World) (nb : ByteArray) (inv : Bool) (line : Int) : NewSe w ((w.alloc (.cells #[.string nb, .bool inv, .int .i64 line, .slice (some ⟨w.heap.size + 1, 0, none⟩) 0 0] 93)).alloc (.cells #[] 20)).drew nb inv line w.heap.size (w.heap.size + 1) := by
  refine ⟨(fr_two _ _ _).trans (Fr.drew _ _), blk_alloc _ (blk_new _ _), ?_, by omega, by omega, by omega⟩
  have := blk_new (w.alloc (.cells #[.string nb, .bool inv, .int .i64 line, .slice (some ⟨w.heap.size + 1, 0, none⟩) 0 0] 93)) (.cells #[] 20)
  simp only [World.size_alloc] at this
  exact this
set_option maxRecDepth 100000 in
set_option maxHeartbeats 8000000 in
theorem sec_r22 (t : Nat) (tb nb : ByteArray) (htb : 0 < tb.size) (x : Tm) (w : World) (ht : TmAt w t x) (Q : Exit → Act → World → Prop) (v1 v2 v3 v4 v5 v6 v7 v8 v9 v10 v11 v12 v15 v16 v17 v18 v19 v20 v21 v22 v23 v24 v25 v26 v27 v28 v29 v30 v31 v32 v33 v34 v35 v36 v37 v38 v39 v40 v41 v42 v43 v44 v45 v46 v47 v48 v49 v50 v51 v52 v53 v54 v55 v56 v57 v58 v59 v60 v61 v62 v63 v64 v65 v66 v67 v68 v69 v70 v71 v72 v73 v74 v75 v76 v77 v78 v79 v80 v81 v82 v83 v84 v85 v86 v87 v88 v89 v90 v91 v92 v93 v94 v95 v96 v97 v98 v99 v100 v101 v102 v103 v104 v105 v106 v107 v108 v109 v110 v111 v112 v113 v114 v115 v116 v117 v118 v119 v120 v121 v122 v123 v124 v125 v126 v127 v128 v129 v130 v131 v132 v133 v134 v135 v136 v137 v138 v139 v140 v141 v142 v143 v144 v145 v146 v147 v148 v149 v150 v151 v152 v153 v154 v155 v156 v157 v158 v159 v160 v161 v162 v163 v164 v165 v166 v167 v168 v169 v170 v171 v172 v173 v174 v175 v176 v177 v178 v179 v180 v181 v182 v183 v184 v185 v186 v187 v188 v189 v190 v191 v192 v193 v194 v195 v196 v197 v198 v199 v200 v201 v202 v203 v204 v205 v206 v207 v208 v209 v210 v211 v212 v213 v214 v215 v216 v217 v218 v219 v220 v221 v222 v223 v224 v225 v226 v227 v228 v229 v230 v231 v232 v233 v234 v235 v236 v237 v238 v239 v240 v241 v242 v243 v244 v245 v246 v247 v248 v249 v250 v251 v252 v253 v254 v255 v256 v257 v258 v259 v260 v261 : Value)
    (hQ : ∀ (u138 u139 u140 u141 u142 u143 u144 u145 u146 u147 : Value) (b2 g2 : Nat) (w' : World), NewSe w w' nb ((tb[0].toNat : Int) == 94) x.line b2 g2 → Q .normal ⟨#[.pointer (some ⟨t, 0, none⟩), v1, v2, v3, v4, v5, v6, v7, v8, v9, v10, v11, v12, .string tb, .string nb, .pointer (some ⟨b2, 0, none⟩), v16, v17, v18, v19, v20, v21, v22, v23, v24, v25, v26, v27, v28, v29, v30, v31, v32, v33, v34, v35, v36, v37, v38, v39, v40, v41, v42, v43, v44, v45, v46, v47, v48, v49, v50, v51, v52, v53, v54, v55, v56, v57, v58, v59, v60, v61, v62, v63, v64, v65, v66, v67, v68, v69, v70, v71, v72, v73, v74, v75, v76, v77, v78, v79, v80, v81, v82, v83, v84, v85, v86, v87, v88, v89, v90, v91, v92, v93, v94, v95, v96, v97, v98, v99, v100, v101, v102, v103, v104, v105, v106, v107, v108, v109, v110, v111, v112, v113, v114, v115, v116, v117, v118, v119, v120, v121, v122, v123, v124, v125, v126, v127, v128, v129, v130, v131, v132, v133, v134, v135, v136, v137, u138, u139, u140, u141, u142, u143, u144, u145, u146, u147, v148, v149, v150, v151, v152, v153, v154, v155, v156, v157, v158, v159, v160, v161, v162, v163, v164, v165, v166, v167, v168, v169, v170, v171, v172, v173, v174, v175, v176, v177, v178, v179, v180, v181, v182, v183, v184, v185, v186, v187, v188, v189, v190, v191, v192, v193, v194, v195, v196, v197, v198, v199, v200, v201, v202, v203, v204, v205, v206, v207, v208, v209, v210, v211, v212, v213, v214, v215, v216, v217, v218, v219, v220, v221, v222, v223, v224, v225, v226, v227, v228, v229, v230, v231, v232, v233, v234, v235, v236, v237, v238, v239, v240, v241, v242, v243, v244, v245, v246, v247, v248, v249, v250, v251, v252, v253, v254, v255, v256, v257, v258, v259, v260, v261], []⟩ w') :
    (regionAt Tryd.f33 22).wp Tryd.prog Q ⟨#[.pointer (some ⟨t, 0, none⟩), v1, v2, v3, v4, v5, v6, v7, v8, v9, v10, v11, v12, .string tb, .string nb, v15, v16, v17, v18, v19, v20, v21, v22, v23, v24, v25, v26, v27, v28, v29, v30, v31, v32, v33, v34, v35, v36, v37, v38, v39, v40, v41, v42, v43, v44, v45, v46, v47, v48, v49, v50, v51, v52, v53, v54, v55, v56, v57, v58, v59, v60, v61, v62, v63, v64, v65, v66, v67, v68, v69, v70, v71, v72, v73, v74, v75, v76, v77, v78, v79, v80, v81, v82, v83, v84, v85, v86, v87, v88, v89, v90, v91, v92, v93, v94, v95, v96, v97, v98, v99, v100, v101, v102, v103, v104, v105, v106, v107, v108, v109, v110, v111, v112, v113, v114, v115, v116, v117, v118, v119, v120, v121, v122, v123, v124, v125, v126, v127, v128, v129, v130, v131, v132, v133, v134, v135, v136, v137, v138, v139, v140, v141, v142, v143, v144, v145, v146, v147, v148, v149, v150, v151, v152, v153, v154, v155, v156, v157, v158, v159, v160, v161, v162, v163, v164, v165, v166, v167, v168, v169, v170, v171, v172, v173, v174, v175, v176, v177, v178, v179, v180, v181, v182, v183, v184, v185, v186, v187, v188, v189, v190, v191, v192, v193, v194, v195, v196, v197, v198, v199, v200, v201, v202, v203, v204, v205, v206, v207, v208, v209, v210, v211, v212, v213, v214, v215, v216, v217, v218, v219, v220, v221, v222, v223, v224, v225, v226, v227, v228, v229, v230, v231, v232, v233, v234, v235, v236, v237, v238, v239, v240, v241, v242, v243, v244, v245, v246, v247, v248, v249, v250, v251, v252, v253, v254, v255, v256, v257, v258, v259, v260, v261], []⟩ w := by
  have HQ := Lib.hid hQ
  clear hQ
  have h4 := ht.cells.2.2.2.2.1
  have htl : t < w.heap.size := blk_lt ht
  clear ht
  conv => arg 2; whnf
  refine wp_region_noPanic ?_
  go_region
  all_goals first | exact HQ.out _ _ _ _ _ _ _ _ _ _ _ _ _ (newSe_a w nb _ _) | exact HQ.out _ _ _ _ _ _ _ _ _ _ _ _ _ (newSe_b w nb _ _) | (trace_state; done )

end Go.Proofs.YtfakghnpkdoclaaDoor
