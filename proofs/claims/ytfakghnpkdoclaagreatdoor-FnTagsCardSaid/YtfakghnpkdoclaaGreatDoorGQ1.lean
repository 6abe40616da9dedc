/-
  The specification's parts: regions. (Joined by wip/pack.py.)
-/
import Derived.Test.YtfakghnpkdoclaaGreatDoorGS2
import Derived.Test.YtfakghnpkdoclaaGreatDoorGP2
set_option linter.unusedVariables false
set_option linter.unusedSimpArgs false
set_option maxRecDepth 100000
set_option maxHeartbeats 8000000
namespace Go.Proofs.YtfakghnpkdoclaaGreatDoor
open Go.RowKit
open Go.Lib (hid)
theorem nd_ne {w : World} {lo ob g0 cp0 gg n : Nat} {own : Nat → Prop} (h4 : ∀ k, (Value.slice (some ⟨g0, 0, none⟩) n cp0).ownBlock = some k → lo ≤ k ∧ ¬ own k) (hown : own ob) (hobl : ob < w.heap.size)
 (hat : (Value.slice (some ⟨g0, 0, none⟩) n cp0).ownBlock = some gg ∨ gg = w.heap.size + 1) : gg ≠ ob := by
 rcases hat with h | h
 · exact fun e => (h4 gg h).2 (e ▸ hown)
 · omega
theorem pt_r21 (ob lo g0 cp0 : Nat) (ns : List Mu.Node) (w : World) (own : Nat → Prop) (HG : Hid (GotN w lo own (.slice (some ⟨g0, 0, none⟩) ns.length cp0) ns)) (hob : w.heap[ob]? = some (.cells #[(.slice (some ⟨g0, 0, none⟩) ns.length cp0)] 34 (0, 0))) (hown : own ob) (hlo : lo ≤ w.heap.size) (hownl : ∀ k, own k → k < w.heap.size) (hl : ns.length ≤ 85899346000)
 (Q : Exit → Act → World → Prop) (v0 v1 v2 v3 v4 v6 v7 v8 v9 v10 v11 v12 v13 v14 v15 v16 v17 v18 v19 v20 v21 v22 v23 v24 v25 v26 v27 v28 v29 v30 v31 v32 v33 v34 v35 v36 v37 v38 v39 v40 v41 v42 v43 v44 v45 v46 v47 v48 v49 v50 v51 v52 v53 v54 v55 v56 v57 v58 v59 v60 v61 v62 v63 v64 v65 v66 v67 v68 v69 v70 v71 v72 v73 v74 v75 v76 v77 v78 v79 v80 v81 v82 v83 v84 v85 v86 v87 v88 v89 v90 v91 v92 v93 v94 v95 v96 v97 v98 v99 v100 v101 v102 v103 v104 v105 v106 v107 v108 v109 v110 v111 v112 v113 v114 v115 v116 v117 v118 v119 v120 v121 v122 v123 v124 v125 v126 v127 v128 v129 v130 v131 v132 v133 v134 v135 v136 v137 v138 v139 v140 v141 v142 v143 v144 v145 v146 v147 v148 v149 v150 v151 v152 v153 v154 v155 v156 v157 v158 v159 v160 v161 v162 v163 v164 v165 v166 v167 v168 v169 v170 v171 v172 v173 v174 v175 v176 v177 v178 v179 v180 v181 v182 v183 v184 v185 v186 v187 v188 v189 v190 v191 v192 v193 v194 v195 v196 v197 v198 v199 v200 v201 v202 v203 v204 v205 v206 v207 v208 v209 v210 v211 v212 v213 v214 v215 v216 v217 v218 v219 v220 v221 v222 v223 v224 v225 v226 v227 v228 v229 v230 v231 v232 v233 v234 v235 v236 v237 v238 v239 v240 v241 v242 v243 v244 v245 v246 v247 v248 v249 v250 v251 v252 v253 v254 v255 v256 v257 v258 v259 v260 v261 v262 v263 v264 v265 v266 v267 v268 v269 v270 : Value) (hQ : ∀ (u146 u147 u148 u149 u150 u151 v' : Value) (w' : World), NAdd lo own ob w w' (.slice (some ⟨g0, 0, none⟩) ns.length cp0) v' ns [Mu.Node.mk 6 (L ⟨#[]⟩) false (L ⟨#[]⟩) []] → Q .normal ⟨#[v0, v1, v2, v3, v4, .pointer (some ⟨ob, 0, none⟩), v6, v7, v8, v9, v10, v11, v12, v13, v14, v15, v16, v17, v18, v19, v20, v21, v22, v23, v24, v25, v26, v27, v28, v29, v30, v31, v32, v33, v34, v35, v36, v37, v38, v39, v40, v41, v42, v43, v44, v45, v46, v47, v48, v49, v50, v51, v52, v53, v54, v55, v56, v57, v58, v59, v60, v61, v62, v63, v64, v65, v66, v67, v68, v69, v70, v71, v72, v73, v74, v75, v76, v77, v78, v79, v80, v81, v82, v83, v84, v85, v86, v87, v88, v89, v90, v91, v92, v93, v94, v95, v96, v97, v98, v99, v100, v101, v102, v103, v104, v105, v106, v107, v108, v109, v110, v111, v112, v113, v114, v115, v116, v117, v118, v119, v120, v121, v122, v123, v124, v125, v126, v127, v128, v129, v130, v131, v132, v133, v134, v135, v136, v137, v138, v139, v140, v141, v142, v143, v144, v145, u146, u147, u148, u149, u150, u151, v152, v153, v154, v155, v156, v157, v158, v159, v160, v161, v162, v163, v164, v165, v166, v167, v168, v169, v170, v171, v172, v173, v174, v175, v176, v177, v178, v179, v180, v181, v182, v183, v184, v185, v186, v187, v188, v189, v190, v191, v192, v193, v194, v195, v196, v197, v198, v199, v200, v201, v202, v203, v204, v205, v206, v207, v208, v209, v210, v211, v212, v213, v214, v215, v216, v217, v218, v219, v220, v221, v222, v223, v224, v225, v226, v227, v228, v229, v230, v231, v232, v233, v234, v235, v236, v237, v238, v239, v240, v241, v242, v243, v244, v245, v246, v247, v248, v249, v250, v251, v252, v253, v254, v255, v256, v257, v258, v259, v260, v261, v262, v263, v264, v265, v266, v267, v268, v269, v270], []⟩ w') :
 (regionAt Tryz.f37 21).wp Tryz.prog Q ⟨#[v0, v1, v2, v3, v4, .pointer (some ⟨ob, 0, none⟩), v6, v7, v8, v9, v10, v11, v12, v13, v14, v15, v16, v17, v18, v19, v20, v21, v22, v23, v24, v25, v26, v27, v28, v29, v30, v31, v32, v33, v34, v35, v36, v37, v38, v39, v40, v41, v42, v43, v44, v45, v46, v47, v48, v49, v50, v51, v52, v53, v54, v55, v56, v57, v58, v59, v60, v61, v62, v63, v64, v65, v66, v67, v68, v69, v70, v71, v72, v73, v74, v75, v76, v77, v78, v79, v80, v81, v82, v83, v84, v85, v86, v87, v88, v89, v90, v91, v92, v93, v94, v95, v96, v97, v98, v99, v100, v101, v102, v103, v104, v105, v106, v107, v108, v109, v110, v111, v112, v113, v114, v115, v116, v117, v118, v119, v120, v121, v122, v123, v124, v125, v126, v127, v128, v129, v130, v131, v132, v133, v134, v135, v136, v137, v138, v139, v140, v141, v142, v143, v144, v145, v146, v147, v148, v149, v150, v151, v152, v153, v154, v155, v156, v157, v158, v159, v160, v161, v162, v163, v164, v165, v166, v167, v168, v169, v170, v171, v172, v173, v174, v175, v176, v177, v178, v179, v180, v181, v182, v183, v184, v185, v186, v187, v188, v189, v190, v191, v192, v193, v194, v195, v196, v197, v198, v199, v200, v201, v202, v203, v204, v205, v206, v207, v208, v209, v210, v211, v212, v213, v214, v215, v216, v217, v218, v219, v220, v221, v222, v223, v224, v225, v226, v227, v228, v229, v230, v231, v232, v233, v234, v235, v236, v237, v238, v239, v240, v241, v242, v243, v244, v245, v246, v247, v248, v249, v250, v251, v252, v253, v254, v255, v256, v257, v258, v259, v260, v261, v262, v263, v264, v265, v266, v267, v268, v269, v270], []⟩ w := by
 obtain ⟨i0, hi, hz0, hz1, hz2⟩ := info_parts infoNode
 obtain ⟨S, vs, ho1, hns1, hS, hrow⟩ := HG.out.out
 have HO1 := hid ho1
 have HQ := hid hQ
 have HOWN := hid hown
 have HOWNL := hid hownl
 have HOB := hid hob
 have hn1 : ns.length + 1 ≤ maxLen := by unfold maxLen; omega
 have hn2 : (ns.length + 1) * 72 ≤ 140737488355328 := by omega
 have ob0 := blk_cell hob 0
 have obf := blk_free hob 0
 have hobl := blk_lt hob
 have HROW := hid hrow
 have q1 : ((ns.length : Int) < (ns.length : Int) + 1) = True := eq_true (by omega)
 have HS := hid hS
 have HNS := hid hns1
 have hne0 : ob ≠ g0 := fun e => (hrow g0 rfl).2 (e ▸ hown)
 have HNE0 := hid hne0
 clear hown hownl hQ hne0 hob
 simp only [List.getElem?_toArray, List.getElem?_cons_zero] at ob0
 conv => arg 2; whnf
 refine wp_region_noPanic ?_
 go_region_law (refine step_append_lies _ (by rfl) _ _ 34 (by rfl) 0 38 i0 (.agg #[.int .i64 0, .string ⟨#[]⟩, .bool false, .string ⟨#[]⟩, .slice none 0 0]) 5 72 Tryz.underlying34 hi hz0 hz1 hz2 rfl (by decide) (.slice (some ⟨g0, 0, none⟩) ns.length cp0) ns.length vs (by rfl) ((HO1.out.alloc _).drew) ⟨w.heap.size, 0, none⟩ 1 1 zeroNode (by rfl) (by rfl) (zeroNode_new w) zeroNode_one (by decide) hn1 hn2 (Nat.zero_le _) (w.heap.size + 1) (by simp) ?_; intro gg cp w2 hown2 hgrow hat hlt; have hgrow2 := grown_drew0 hgrow; obtain ⟨d0, d1, d2, d3, d4, f0, f1, f2, f3, f4⟩ := node_room hown2 HO1.out.1; have hob2 := (hgrow2.block ob (by simp; omega) (fun e => HNE0.out (by simpa [Value.ownBlock] using e))).trans (blk_alloc (.cells #[.int .i64 0, .string ⟨#[]⟩, .bool false, .string ⟨#[]⟩, .slice none 0 0] 38) HOB.out); have e0 := blk_cell hob2 0; have ef := blk_free hob2 0; simp only [List.getElem?_toArray, List.getElem?_cons_zero] at e0; have hgo : gg ≠ ob := (nd_ne (HROW.out) HOWN.out hobl hat); have HGR := hid hgrow2; have HO2 := hid hown2; have HAT := hid hat; clear hgrow hgrow2 hown2 hat hob2)
 all_goals
  have N1 := nd_add (gg := gg) (cp := cp) (c0 := (.int .i64 6)) (c1 := (.string ⟨#[]⟩)) (c2 := (.bool false)) (c3 := (.string ⟨#[]⟩)) (c4 := (.slice none 0 0)) (Sn := fun _ => False) HO1.out HNS.out HS.out HROW.out HOB.out HOWN.out hlo HOWNL.out (Fr.alloc _ _ _) HO2.out HGR.out HAT.out (by simp) (nat_leaf _ _ 6 ⟨#[]⟩ false ⟨#[]⟩) (fun k hk => hk.elim);have N2 := N1;rw [nd_swap hgo] at N2
  refine HQ.out _ _ _ _ _ _ (.slice (some ⟨gg, 0, none⟩) (ns.length + 1) cp) _ ?_
  first | with_reducible exact N1 | with_reducible exact N2
theorem pt_r23 (ob lo g0 cp0 : Nat) (ns : List Mu.Node) (w : World) (own : Nat → Prop) (HG : Hid (GotN w lo own (.slice (some ⟨g0, 0, none⟩) ns.length cp0) ns)) (hob : w.heap[ob]? = some (.cells #[(.slice (some ⟨g0, 0, none⟩) ns.length cp0)] 34 (0, 0))) (hown : own ob) (hlo : lo ≤ w.heap.size) (hownl : ∀ k, own k → k < w.heap.size) (hl : ns.length ≤ 85899346000)
 (Q : Exit → Act → World → Prop) (v0 v1 v2 v3 v4 v6 v7 v8 v9 v10 v11 v12 v13 v14 v15 v16 v17 v18 v19 v20 v21 v22 v23 v24 v25 v26 v27 v28 v29 v30 v31 v32 v33 v34 v35 v36 v37 v38 v39 v40 v41 v42 v43 v44 v45 v46 v47 v48 v49 v50 v51 v52 v53 v54 v55 v56 v57 v58 v59 v60 v61 v62 v63 v64 v65 v66 v67 v68 v69 v70 v71 v72 v73 v74 v75 v76 v77 v78 v79 v80 v81 v82 v83 v84 v85 v86 v87 v88 v89 v90 v91 v92 v93 v94 v95 v96 v97 v98 v99 v100 v101 v102 v103 v104 v105 v106 v107 v108 v109 v110 v111 v112 v113 v114 v115 v116 v117 v118 v119 v120 v121 v122 v123 v124 v125 v126 v127 v128 v129 v130 v131 v132 v133 v134 v135 v136 v137 v138 v139 v140 v141 v142 v143 v144 v145 v146 v147 v148 v149 v150 v151 v152 v153 v154 v155 v156 v157 v158 v159 v160 v161 v162 v163 v164 v165 v166 v167 v168 v169 v170 v171 v172 v173 v174 v175 v176 v177 v178 v179 v180 v181 v182 v183 v184 v185 v186 v187 v188 v189 v190 v191 v192 v193 v194 v195 v196 v197 v198 v199 v200 v201 v202 v203 v204 v205 v206 v207 v208 v209 v210 v211 v212 v213 v214 v215 v216 v217 v218 v219 v220 v221 v222 v223 v224 v225 v226 v227 v228 v229 v230 v231 v232 v233 v234 v235 v236 v237 v238 v239 v240 v241 v242 v243 v244 v245 v246 v247 v248 v249 v250 v251 v252 v253 v254 v255 v256 v257 v258 v259 v260 v261 v262 v263 v264 v265 v266 v267 v268 v269 v270 : Value) (hQ : ∀ (u154 u155 u156 u157 u158 u159 v' : Value) (w' : World), NAdd lo own ob w w' (.slice (some ⟨g0, 0, none⟩) ns.length cp0) v' ns [Mu.Node.mk 6 (L ⟨#[]⟩) false (L ⟨#[]⟩) []] → Q .normal ⟨#[v0, v1, v2, v3, v4, .pointer (some ⟨ob, 0, none⟩), v6, v7, v8, v9, v10, v11, v12, v13, v14, v15, v16, v17, v18, v19, v20, v21, v22, v23, v24, v25, v26, v27, v28, v29, v30, v31, v32, v33, v34, v35, v36, v37, v38, v39, v40, v41, v42, v43, v44, v45, v46, v47, v48, v49, v50, v51, v52, v53, v54, v55, v56, v57, v58, v59, v60, v61, v62, v63, v64, v65, v66, v67, v68, v69, v70, v71, v72, v73, v74, v75, v76, v77, v78, v79, v80, v81, v82, v83, v84, v85, v86, v87, v88, v89, v90, v91, v92, v93, v94, v95, v96, v97, v98, v99, v100, v101, v102, v103, v104, v105, v106, v107, v108, v109, v110, v111, v112, v113, v114, v115, v116, v117, v118, v119, v120, v121, v122, v123, v124, v125, v126, v127, v128, v129, v130, v131, v132, v133, v134, v135, v136, v137, v138, v139, v140, v141, v142, v143, v144, v145, v146, v147, v148, v149, v150, v151, v152, v153, u154, u155, u156, u157, u158, u159, v160, v161, v162, v163, v164, v165, v166, v167, v168, v169, v170, v171, v172, v173, v174, v175, v176, v177, v178, v179, v180, v181, v182, v183, v184, v185, v186, v187, v188, v189, v190, v191, v192, v193, v194, v195, v196, v197, v198, v199, v200, v201, v202, v203, v204, v205, v206, v207, v208, v209, v210, v211, v212, v213, v214, v215, v216, v217, v218, v219, v220, v221, v222, v223, v224, v225, v226, v227, v228, v229, v230, v231, v232, v233, v234, v235, v236, v237, v238, v239, v240, v241, v242, v243, v244, v245, v246, v247, v248, v249, v250, v251, v252, v253, v254, v255, v256, v257, v258, v259, v260, v261, v262, v263, v264, v265, v266, v267, v268, v269, v270], []⟩ w') :
 (regionAt Tryz.f37 23).wp Tryz.prog Q ⟨#[v0, v1, v2, v3, v4, .pointer (some ⟨ob, 0, none⟩), v6, v7, v8, v9, v10, v11, v12, v13, v14, v15, v16, v17, v18, v19, v20, v21, v22, v23, v24, v25, v26, v27, v28, v29, v30, v31, v32, v33, v34, v35, v36, v37, v38, v39, v40, v41, v42, v43, v44, v45, v46, v47, v48, v49, v50, v51, v52, v53, v54, v55, v56, v57, v58, v59, v60, v61, v62, v63, v64, v65, v66, v67, v68, v69, v70, v71, v72, v73, v74, v75, v76, v77, v78, v79, v80, v81, v82, v83, v84, v85, v86, v87, v88, v89, v90, v91, v92, v93, v94, v95, v96, v97, v98, v99, v100, v101, v102, v103, v104, v105, v106, v107, v108, v109, v110, v111, v112, v113, v114, v115, v116, v117, v118, v119, v120, v121, v122, v123, v124, v125, v126, v127, v128, v129, v130, v131, v132, v133, v134, v135, v136, v137, v138, v139, v140, v141, v142, v143, v144, v145, v146, v147, v148, v149, v150, v151, v152, v153, v154, v155, v156, v157, v158, v159, v160, v161, v162, v163, v164, v165, v166, v167, v168, v169, v170, v171, v172, v173, v174, v175, v176, v177, v178, v179, v180, v181, v182, v183, v184, v185, v186, v187, v188, v189, v190, v191, v192, v193, v194, v195, v196, v197, v198, v199, v200, v201, v202, v203, v204, v205, v206, v207, v208, v209, v210, v211, v212, v213, v214, v215, v216, v217, v218, v219, v220, v221, v222, v223, v224, v225, v226, v227, v228, v229, v230, v231, v232, v233, v234, v235, v236, v237, v238, v239, v240, v241, v242, v243, v244, v245, v246, v247, v248, v249, v250, v251, v252, v253, v254, v255, v256, v257, v258, v259, v260, v261, v262, v263, v264, v265, v266, v267, v268, v269, v270], []⟩ w := by
 obtain ⟨i0, hi, hz0, hz1, hz2⟩ := info_parts infoNode
 obtain ⟨S, vs, ho1, hns1, hS, hrow⟩ := HG.out.out
 have HO1 := hid ho1
 have HQ := hid hQ
 have HOWN := hid hown
 have HOWNL := hid hownl
 have HOB := hid hob
 have hn1 : ns.length + 1 ≤ maxLen := by unfold maxLen; omega
 have hn2 : (ns.length + 1) * 72 ≤ 140737488355328 := by omega
 have ob0 := blk_cell hob 0
 have obf := blk_free hob 0
 have hobl := blk_lt hob
 have HROW := hid hrow
 have q1 : ((ns.length : Int) < (ns.length : Int) + 1) = True := eq_true (by omega)
 have HS := hid hS
 have HNS := hid hns1
 have hne0 : ob ≠ g0 := fun e => (hrow g0 rfl).2 (e ▸ hown)
 have HNE0 := hid hne0
 clear hown hownl hQ hne0 hob
 simp only [List.getElem?_toArray, List.getElem?_cons_zero] at ob0
 conv => arg 2; whnf
 refine wp_region_noPanic ?_
 go_region_law (refine step_append_lies _ (by rfl) _ _ 34 (by rfl) 0 38 i0 (.agg #[.int .i64 0, .string ⟨#[]⟩, .bool false, .string ⟨#[]⟩, .slice none 0 0]) 5 72 Tryz.underlying34 hi hz0 hz1 hz2 rfl (by decide) (.slice (some ⟨g0, 0, none⟩) ns.length cp0) ns.length vs (by rfl) ((HO1.out.alloc _).drew) ⟨w.heap.size, 0, none⟩ 1 1 zeroNode (by rfl) (by rfl) (zeroNode_new w) zeroNode_one (by decide) hn1 hn2 (Nat.zero_le _) (w.heap.size + 1) (by simp) ?_; intro gg cp w2 hown2 hgrow hat hlt; have hgrow2 := grown_drew0 hgrow; obtain ⟨d0, d1, d2, d3, d4, f0, f1, f2, f3, f4⟩ := node_room hown2 HO1.out.1; have hob2 := (hgrow2.block ob (by simp; omega) (fun e => HNE0.out (by simpa [Value.ownBlock] using e))).trans (blk_alloc (.cells #[.int .i64 0, .string ⟨#[]⟩, .bool false, .string ⟨#[]⟩, .slice none 0 0] 38) HOB.out); have e0 := blk_cell hob2 0; have ef := blk_free hob2 0; simp only [List.getElem?_toArray, List.getElem?_cons_zero] at e0; have hgo : gg ≠ ob := (nd_ne (HROW.out) HOWN.out hobl hat); have HGR := hid hgrow2; have HO2 := hid hown2; have HAT := hid hat; clear hgrow hgrow2 hown2 hat hob2)
 all_goals
  have N1 := nd_add (gg := gg) (cp := cp) (c0 := (.int .i64 6)) (c1 := (.string ⟨#[]⟩)) (c2 := (.bool false)) (c3 := (.string ⟨#[]⟩)) (c4 := (.slice none 0 0)) (Sn := fun _ => False) HO1.out HNS.out HS.out HROW.out HOB.out HOWN.out hlo HOWNL.out (Fr.alloc _ _ _) HO2.out HGR.out HAT.out (by simp) (nat_leaf _ _ 6 ⟨#[]⟩ false ⟨#[]⟩) (fun k hk => hk.elim);have N2 := N1;rw [nd_swap hgo] at N2
  refine HQ.out _ _ _ _ _ _ (.slice (some ⟨gg, 0, none⟩) (ns.length + 1) cp) _ ?_
  first | with_reducible exact N1 | with_reducible exact N2
theorem pt_r38 (ob lo g0 cp0 : Nat) (ns : List Mu.Node) (w : World) (own : Nat → Prop) (nb kd : Nat) (bd ib : ByteArray) (raw : Bool) (ka : Option Addr) (kn kc : Nat) (nd : Mu.Node) (Sn : Nat → Prop) (hnb : w.heap[nb]? = some (.cells #[.int .i64 kd, .string bd, .bool raw, .string ib, .slice ka kn kc] 38 (0, 0))) (hnd : NAt w Sn nd [.int .i64 kd, .string bd, .bool raw, .string ib, .slice ka kn kc]) (hSn : ∀ k, Sn k → (lo ≤ k ∧ k < w.heap.size) ∧ k ≠ g0 ∧ ¬ own k) (HG : Hid (GotN w lo own (.slice (some ⟨g0, 0, none⟩) ns.length cp0) ns)) (hob : w.heap[ob]? = some (.cells #[(.slice (some ⟨g0, 0, none⟩) ns.length cp0)] 34 (0, 0))) (hown : own ob) (hlo : lo ≤ w.heap.size) (hownl : ∀ k, own k → k < w.heap.size) (hl : ns.length ≤ 85899346000)
 (Q : Exit → Act → World → Prop) (v0 v1 v2 v3 v4 v6 v7 v8 v9 v10 v11 v13 v14 v15 v16 v17 v18 v19 v20 v21 v22 v23 v24 v25 v26 v27 v28 v29 v30 v31 v32 v33 v34 v35 v36 v37 v38 v39 v40 v41 v42 v43 v44 v45 v46 v47 v48 v49 v50 v51 v52 v53 v54 v55 v56 v57 v58 v59 v60 v61 v62 v63 v64 v65 v66 v67 v68 v69 v70 v71 v72 v73 v74 v75 v76 v77 v78 v79 v80 v81 v82 v83 v84 v85 v86 v87 v88 v89 v90 v91 v92 v93 v94 v95 v96 v97 v98 v99 v100 v101 v102 v103 v104 v105 v106 v107 v108 v109 v110 v111 v112 v113 v114 v115 v116 v117 v118 v119 v120 v121 v122 v123 v124 v125 v126 v127 v128 v129 v130 v131 v132 v133 v134 v135 v136 v137 v138 v139 v140 v141 v142 v143 v144 v145 v146 v147 v148 v149 v150 v151 v152 v153 v154 v155 v156 v157 v158 v159 v160 v161 v162 v163 v164 v165 v166 v167 v168 v169 v170 v171 v172 v173 v174 v175 v176 v177 v178 v179 v180 v181 v182 v183 v184 v185 v186 v187 v188 v189 v190 v191 v192 v193 v194 v195 v196 v197 v198 v199 v200 v201 v202 v203 v204 v205 v206 v207 v208 v209 v210 v211 v212 v213 v214 v215 v216 v217 v218 v219 v220 v221 v222 v223 v224 v225 v226 v227 v228 v229 v230 v231 v232 v233 v234 v235 v236 v237 v238 v239 v240 v241 v242 v243 v244 v245 v246 v247 v248 v249 v250 v251 v252 v253 v254 v255 v256 v257 v258 v259 v260 v261 v262 v263 v264 v265 v266 v267 v268 v269 v270 : Value) (hQ : ∀ (u240 u241 u242 u243 u244 u245 v' : Value) (w' : World), NAdd lo own ob w w' (.slice (some ⟨g0, 0, none⟩) ns.length cp0) v' ns [nd] → Q .normal ⟨#[v0, v1, v2, v3, v4, .pointer (some ⟨ob, 0, none⟩), v6, v7, v8, v9, v10, v11, .pointer (some ⟨nb, 0, none⟩), v13, v14, v15, v16, v17, v18, v19, v20, v21, v22, v23, v24, v25, v26, v27, v28, v29, v30, v31, v32, v33, v34, v35, v36, v37, v38, v39, v40, v41, v42, v43, v44, v45, v46, v47, v48, v49, v50, v51, v52, v53, v54, v55, v56, v57, v58, v59, v60, v61, v62, v63, v64, v65, v66, v67, v68, v69, v70, v71, v72, v73, v74, v75, v76, v77, v78, v79, v80, v81, v82, v83, v84, v85, v86, v87, v88, v89, v90, v91, v92, v93, v94, v95, v96, v97, v98, v99, v100, v101, v102, v103, v104, v105, v106, v107, v108, v109, v110, v111, v112, v113, v114, v115, v116, v117, v118, v119, v120, v121, v122, v123, v124, v125, v126, v127, v128, v129, v130, v131, v132, v133, v134, v135, v136, v137, v138, v139, v140, v141, v142, v143, v144, v145, v146, v147, v148, v149, v150, v151, v152, v153, v154, v155, v156, v157, v158, v159, v160, v161, v162, v163, v164, v165, v166, v167, v168, v169, v170, v171, v172, v173, v174, v175, v176, v177, v178, v179, v180, v181, v182, v183, v184, v185, v186, v187, v188, v189, v190, v191, v192, v193, v194, v195, v196, v197, v198, v199, v200, v201, v202, v203, v204, v205, v206, v207, v208, v209, v210, v211, v212, v213, v214, v215, v216, v217, v218, v219, v220, v221, v222, v223, v224, v225, v226, v227, v228, v229, v230, v231, v232, v233, v234, v235, v236, v237, v238, v239, u240, u241, u242, u243, u244, u245, v246, v247, v248, v249, v250, v251, v252, v253, v254, v255, v256, v257, v258, v259, v260, v261, v262, v263, v264, v265, v266, v267, v268, v269, v270], []⟩ w') :
 (regionAt Tryz.f37 38).wp Tryz.prog Q ⟨#[v0, v1, v2, v3, v4, .pointer (some ⟨ob, 0, none⟩), v6, v7, v8, v9, v10, v11, .pointer (some ⟨nb, 0, none⟩), v13, v14, v15, v16, v17, v18, v19, v20, v21, v22, v23, v24, v25, v26, v27, v28, v29, v30, v31, v32, v33, v34, v35, v36, v37, v38, v39, v40, v41, v42, v43, v44, v45, v46, v47, v48, v49, v50, v51, v52, v53, v54, v55, v56, v57, v58, v59, v60, v61, v62, v63, v64, v65, v66, v67, v68, v69, v70, v71, v72, v73, v74, v75, v76, v77, v78, v79, v80, v81, v82, v83, v84, v85, v86, v87, v88, v89, v90, v91, v92, v93, v94, v95, v96, v97, v98, v99, v100, v101, v102, v103, v104, v105, v106, v107, v108, v109, v110, v111, v112, v113, v114, v115, v116, v117, v118, v119, v120, v121, v122, v123, v124, v125, v126, v127, v128, v129, v130, v131, v132, v133, v134, v135, v136, v137, v138, v139, v140, v141, v142, v143, v144, v145, v146, v147, v148, v149, v150, v151, v152, v153, v154, v155, v156, v157, v158, v159, v160, v161, v162, v163, v164, v165, v166, v167, v168, v169, v170, v171, v172, v173, v174, v175, v176, v177, v178, v179, v180, v181, v182, v183, v184, v185, v186, v187, v188, v189, v190, v191, v192, v193, v194, v195, v196, v197, v198, v199, v200, v201, v202, v203, v204, v205, v206, v207, v208, v209, v210, v211, v212, v213, v214, v215, v216, v217, v218, v219, v220, v221, v222, v223, v224, v225, v226, v227, v228, v229, v230, v231, v232, v233, v234, v235, v236, v237, v238, v239, v240, v241, v242, v243, v244, v245, v246, v247, v248, v249, v250, v251, v252, v253, v254, v255, v256, v257, v258, v259, v260, v261, v262, v263, v264, v265, v266, v267, v268, v269, v270], []⟩ w := by
 obtain ⟨i0, hi, hz0, hz1, hz2⟩ := info_parts infoNode
 obtain ⟨S, vs, ho1, hns1, hS, hrow⟩ := HG.out.out
 have HO1 := hid ho1
 have HQ := hid hQ
 have HOWN := hid hown
 have HOWNL := hid hownl
 have HOB := hid hob
 have hn1 : ns.length + 1 ≤ maxLen := by unfold maxLen; omega
 have hn2 : (ns.length + 1) * 72 ≤ 140737488355328 := by omega
 have ob0 := blk_cell hob 0
 have obf := blk_free hob 0
 have hobl := blk_lt hob
 have HROW := hid hrow
 have q1 : ((ns.length : Int) < (ns.length : Int) + 1) = True := eq_true (by omega)
 have HS := hid hS
 have HNS := hid hns1
 have hne0 : ob ≠ g0 := fun e => (hrow g0 rfl).2 (e ▸ hown)
 have HNE0 := hid hne0
 have t0 := blk_cell hnb 0
 have t1 := blk_cell hnb 1
 have t2 := blk_cell hnb 2
 have t3 := blk_cell hnb 3
 have t4 := blk_cell hnb 4
 have hnbl := blk_lt hnb
 simp only [List.getElem?_toArray, List.getElem?_cons_zero, List.getElem?_cons_succ] at t0 t1 t2 t3 t4
 have HND := hid hnd
 have HSN := hid hSn
 clear hnb hnd hSn
 clear hown hownl hQ hne0 hob
 simp only [List.getElem?_toArray, List.getElem?_cons_zero] at ob0
 conv => arg 2; whnf
 refine wp_region_noPanic ?_
 go_region_law (refine step_append_lies _ (by rfl) _ _ 34 (by rfl) 0 38 i0 (.agg #[.int .i64 0, .string ⟨#[]⟩, .bool false, .string ⟨#[]⟩, .slice none 0 0]) 5 72 Tryz.underlying34 hi hz0 hz1 hz2 rfl (by decide) (.slice (some ⟨g0, 0, none⟩) ns.length cp0) ns.length vs (by rfl) ((HO1.out.alloc _).drew) ⟨w.heap.size, 0, none⟩ 1 1 zeroNode (by rfl) (by rfl) (zeroNode_new w) zeroNode_one (by decide) hn1 hn2 (Nat.zero_le _) (w.heap.size + 1) (by simp) ?_; intro gg cp w2 hown2 hgrow hat hlt; have hgrow2 := grown_drew0 hgrow; obtain ⟨d0, d1, d2, d3, d4, f0, f1, f2, f3, f4⟩ := node_room hown2 HO1.out.1; have hob2 := (hgrow2.block ob (by simp; omega) (fun e => HNE0.out (by simpa [Value.ownBlock] using e))).trans (blk_alloc (.cells #[.int .i64 0, .string ⟨#[]⟩, .bool false, .string ⟨#[]⟩, .slice none 0 0] 38) HOB.out); have e0 := blk_cell hob2 0; have ef := blk_free hob2 0; simp only [List.getElem?_toArray, List.getElem?_cons_zero] at e0; have hgo : gg ≠ ob := (nd_ne (HROW.out) HOWN.out hobl hat); have HGR := hid hgrow2; have HO2 := hid hown2; have HAT := hid hat; clear hgrow hgrow2 hown2 hat hob2)
 all_goals
  have N1 := nd_add (gg := gg) (cp := cp) (c0 := (.int .i64 kd)) (c1 := (.string bd)) (c2 := (.bool raw)) (c3 := (.string ib)) (c4 := (.slice ka kn kc)) (Sn := Sn) HO1.out HNS.out HS.out HROW.out HOB.out HOWN.out hlo HOWNL.out (Fr.alloc _ _ _) HO2.out HGR.out HAT.out (by simp) (HND.out) (HSN.out);have N2 := N1;rw [nd_swap hgo] at N2
  refine HQ.out _ _ _ _ _ _ (.slice (some ⟨gg, 0, none⟩) (ns.length + 1) cp) _ ?_
  first | with_reducible exact N1 | with_reducible exact N2
theorem pt_add1 (ob lo g0 cp0 : Nat) (ns : List Mu.Node) (w : World) (own : Nat → Prop) (s : ByteArray) (HG : Hid (GotN w lo own (.slice (some ⟨g0, 0, none⟩) ns.length cp0) ns)) (hob : w.heap[ob]? = some (.cells #[(.slice (some ⟨g0, 0, none⟩) ns.length cp0)] 34 (0, 0))) (hown : own ob) (hlo : lo ≤ w.heap.size) (hownl : ∀ k, own k → k < w.heap.size) (hl : ns.length ≤ 85899346000)
 (Q : Exit → Act → World → Prop) (v2 v3 v4 v5 v6 v7 v8 v9 v10 v11 : Value) (hQ : ∀ (u5 u6 u7 u8 u9 u10 u11 v' : Value) (w' : World), NAdd lo own ob w w' (.slice (some ⟨g0, 0, none⟩) ns.length cp0) v' ns [Mu.Node.mk 1 (L s) false (L ⟨#[]⟩) []] → Q .normal ⟨#[.string s, .pointer (some ⟨ob, 0, none⟩), v2, v3, v4, u5, u6, u7, u8, u9, u10, u11], []⟩ w') :
 (regionAt Tryz.f64 1).wp Tryz.prog Q ⟨#[.string s, .pointer (some ⟨ob, 0, none⟩), v2, v3, v4, v5, v6, v7, v8, v9, v10, v11], []⟩ w := by
 obtain ⟨i0, hi, hz0, hz1, hz2⟩ := info_parts infoNode
 obtain ⟨S, vs, ho1, hns1, hS, hrow⟩ := HG.out.out
 have HO1 := hid ho1
 have HQ := hid hQ
 have HOWN := hid hown
 have HOWNL := hid hownl
 have HOB := hid hob
 have hn1 : ns.length + 1 ≤ maxLen := by unfold maxLen; omega
 have hn2 : (ns.length + 1) * 72 ≤ 140737488355328 := by omega
 have ob0 := blk_cell hob 0
 have obf := blk_free hob 0
 have hobl := blk_lt hob
 have HROW := hid hrow
 have q1 : ((ns.length : Int) < (ns.length : Int) + 1) = True := eq_true (by omega)
 have HS := hid hS
 have HNS := hid hns1
 have hne0 : ob ≠ g0 := fun e => (hrow g0 rfl).2 (e ▸ hown)
 have HNE0 := hid hne0
 clear hown hownl hQ hne0 hob
 simp only [List.getElem?_toArray, List.getElem?_cons_zero] at ob0
 conv => arg 2; whnf
 refine wp_region_noPanic ?_
 go_region_law (refine step_append_lies _ (by rfl) _ _ 34 (by rfl) 0 38 i0 (.agg #[.int .i64 0, .string ⟨#[]⟩, .bool false, .string ⟨#[]⟩, .slice none 0 0]) 5 72 Tryz.underlying34 hi hz0 hz1 hz2 rfl (by decide) (.slice (some ⟨g0, 0, none⟩) ns.length cp0) ns.length vs (by rfl) ((HO1.out.alloc _).drew) ⟨w.heap.size, 0, none⟩ 1 1 zeroNode (by rfl) (by rfl) (zeroNode_new w) zeroNode_one (by decide) hn1 hn2 (Nat.zero_le _) (w.heap.size + 1) (by simp) ?_; intro gg cp w2 hown2 hgrow hat hlt; have hgrow2 := grown_drew0 hgrow; obtain ⟨d0, d1, d2, d3, d4, f0, f1, f2, f3, f4⟩ := node_room hown2 HO1.out.1; have hob2 := (hgrow2.block ob (by simp; omega) (fun e => HNE0.out (by simpa [Value.ownBlock] using e))).trans (blk_alloc (.cells #[.int .i64 0, .string ⟨#[]⟩, .bool false, .string ⟨#[]⟩, .slice none 0 0] 38) HOB.out); have e0 := blk_cell hob2 0; have ef := blk_free hob2 0; simp only [List.getElem?_toArray, List.getElem?_cons_zero] at e0; have hgo : gg ≠ ob := (nd_ne (HROW.out) HOWN.out hobl hat); have HGR := hid hgrow2; have HO2 := hid hown2; have HAT := hid hat; clear hgrow hgrow2 hown2 hat hob2)
 all_goals
  have N1 := nd_add (gg := gg) (cp := cp) (c0 := (.int .i64 1)) (c1 := (.string s)) (c2 := (.bool false)) (c3 := (.string ⟨#[]⟩)) (c4 := (.slice none 0 0)) (Sn := fun _ => False) HO1.out HNS.out HS.out HROW.out HOB.out HOWN.out hlo HOWNL.out (Fr.alloc _ _ _) HO2.out HGR.out HAT.out (by simp) (nat_leaf _ _ 1 s false ⟨#[]⟩) (fun k hk => hk.elim);have N2 := N1;rw [nd_swap hgo] at N2
  refine HQ.out _ _ _ _ _ _ _ (.slice (some ⟨gg, 0, none⟩) (ns.length + 1) cp) _ ?_
  first | with_reducible exact N1 | with_reducible exact N2
end Go.Proofs.YtfakghnpkdoclaaGreatDoor
namespace Go.Proofs.YtfakghnpkdoclaaGreatDoor
open Go.RowKit
open Go.Lib (hid)
def AddPost (lo : Nat) (own : Nat → Prop) (ob : Nat) (w : World) (v : Value) (ns new : List Mu.Node) (e : Ending) (w' : World) : Prop := e = .returned (.tuple #[]) ∧ ∃ v', NAdd lo own ob w w' v v' ns new
theorem add_any (s : ByteArray) (ob lo g0 cp0 : Nat) (ns : List Mu.Node) (w : World) (own : Nat → Prop) (HG : Hid (GotN w lo own (.slice (some ⟨g0, 0, none⟩) ns.length cp0) ns)) (hob : w.heap[ob]? = some (.cells #[.slice (some ⟨g0, 0, none⟩) ns.length cp0] 34 (0, 0))) (hown : own ob) (hlo : lo ≤ w.heap.size) (hownl : ∀ k, own k → k < w.heap.size) (hl : ns.length ≤ 85899346000) :
 Calls Tryz.prog 64 #[.string s, .pointer (some ⟨ob, 0, none⟩)] w (AddPost lo own ob w (.slice (some ⟨g0, 0, none⟩) ns.length cp0) ns (Mu.addT (L s))) := by
 by_cases hs : L s = []
 · have b1 : s.toList = [] := by rw [ByteArray.toList_eq]; exact hs
   have b2 : (s.toList == []) = true := by rw [b1]; rfl
   have b3 : (s.toList != []) = false := by rw [b1]; rfl
   have b4 : s.toList.isEmpty = true := by rw [b1]; rfl
   have HP : Hid (AddPost lo own ob w (.slice (some ⟨g0, 0, none⟩) ns.length cp0) ns (Mu.addT (L s)) (.returned (.tuple #[])) w) := hid (by
    rw [hs];refine ⟨rfl, _, Fr.refl _ _, hob, ?_, .inl rfl, g0, cp0, ?_⟩
    · show GotN w lo own _ (ns ++ []); rw [List.append_nil]; exact HG.out
    · show _ = Value.slice (some ⟨g0, 0, none⟩) (ns ++ []).length cp0; rw [List.append_nil])
   clear hs hob hown hownl b2 b3 b4;go_enter Tryz.func64, Tryz.ntmps64;go_wp2_with fail
   first | go_end0 | refine bodyPost_ret (v := .tuple #[]) rfl rfl ?_
   exact HP.out
 · have b1 : ¬ s.toList = [] := by rw [ByteArray.toList_eq]; exact hs
   have b4 : s.toList.isEmpty = false := by cases h : s.toList with | nil => exact absurd h b1 | cons _ _ => rfl
   have HB : Hid (Mu.addT (L s) = [.mk 1 (L s) false (L ⟨#[]⟩) []]) := hid (by unfold Mu.addT; rw [if_neg hs]; rfl);have HOB := hid hob;have HOWN := hid hown;have HOWNL := hid hownl;clear hs hob hown hownl;go_enter Tryz.func64, Tryz.ntmps64
   go_upto_region 1 with fail
   refine pt_add1 ob lo g0 cp0 ns w own s HG HOB.out HOWN.out hlo HOWNL.out hl _ _ _ _ _ _ _ _ _ _ _ ?_;intro u5 u6 u7 u8 u9 u10 u11 v' w' ha;have HA := hid ha;clear ha;go_wp2_with fail
   first | go_end0 | refine bodyPost_ret (v := .tuple #[]) rfl rfl ?_
   unfold AddPost;rw [HB.out];exact ⟨rfl, v', HA.out⟩
def stOf (x : Pa) : Mu.PSt := ⟨x.p, x.deep, L x.o, L x.c, x.bad⟩
structure PtSt (w0 wr : World) (pb ob : Nat) (x : Pa) (v : Value) (ns : List Mu.Node) : Prop where
 tm : PaAt wr pb x
 pl : pb < w0.heap.size
 fr : Fr (· = pb) w0 wr
 cell : wr.heap[ob]? = some (.cells #[v] 34 (0, 0))
 obn : w0.heap.size ≤ ob
 got : GotN wr w0.heap.size (fun k => k = pb ∨ k = ob) v ns
 form : ∃ g c, v = .slice (some ⟨g, 0, none⟩) ns.length c
section
variable {w0 wr w' : World} {pb ob : Nat} {x x' : Pa} {v v' : Value} {ns new : List Mu.Node}
theorem PtSt.ne (h : PtSt w0 wr pb ob x v ns) : ob ≠ pb := by have := h.pl; have := h.obn; omega
theorem PtSt.obl (h : PtSt w0 wr pb ob x v ns) : ob < wr.heap.size := blk_lt h.cell
theorem PtSt.ownl (h : PtSt w0 wr pb ob x v ns) : ∀ k, (k = pb ∨ k = ob) → k < wr.heap.size := by
 rintro k (rfl | rfl)
 · exact blk_lt h.tm
 · exact blk_lt h.cell
theorem PtSt.pstep (h : PtSt w0 wr pb ob x v ns) (hf : Fr (· = pb) wr w') (ht : PaAt w' pb x') : PtSt w0 w' pb ob x' v ns :=
 ⟨ht, h.pl, h.fr.trans hf, hf.blk h.cell h.ne, h.obn, h.got.fr hf (fun k _ _ e => .inl e), h.form⟩
theorem PtSt.step0 (h : PtSt w0 wr pb ob x v ns) (hf : F0 wr w') : PtSt w0 w' pb ob x v ns := h.pstep (Fr.of0 hf) (h.tm.fr0 hf)
theorem PtSt.add (h : PtSt w0 wr pb ob x v ns) (ha : NAdd w0.heap.size (fun k => k = pb ∨ k = ob) ob wr w' v v' ns new) : PtSt w0 w' pb ob x v' (ns ++ new) := by
 obtain ⟨S, vs, h1, h2, h3, h4⟩ := h.got.out
 have hv : v.ownBlock ≠ some pb := fun e => (h4 pb e).2 (.inl rfl)
 refine ⟨ha.fr.blk h.tm (fun e => e.elim (fun e => h.ne e.symm) hv), h.pl, h.fr.trans' ha.fr (fun k hk e => ?_), ha.cell, h.obn, ha.got, ha.form⟩
 have := h.obn
 rcases e with e | e
 · omega
 · have := (h4 k e).1; omega
end
def PBlk (w : World) (pb ob : Nat) (v : Value) (r : Nat) (o : Obj) : Prop := w.heap[r]? = some o ∧ r ≠ pb ∧ r ≠ ob ∧ v.ownBlock ≠ some r
section
variable {w0 w w' : World} {pb ob r : Nat} {x : Pa} {v v' : Value} {ns new : List Mu.Node} {o : Obj}
theorem PBlk.pstep (h : PBlk w pb ob v r o) (hf : Fr (· = pb) w w') : PBlk w' pb ob v r o := ⟨hf.blk h.1 h.2.1, h.2⟩
theorem PBlk.step0 (h : PBlk w pb ob v r o) (hf : F0 w w') : PBlk w' pb ob v r o := ⟨hf.blk h.1 id, h.2⟩
theorem PBlk.add {lo : Nat} {own : Nat → Prop} (h : PBlk w pb ob v r o) (ha : NAdd lo own ob w w' v v' ns new) : PBlk w' pb ob v' r o := by
 have hr := blk_lt h.1
 refine ⟨ha.fr.blk h.1 (fun e => e.elim h.2.2.1 h.2.2.2), h.2.1, h.2.2.1, fun he => ?_⟩
 rcases ha.ow with e | ⟨g, hg, hlt⟩
 · exact h.2.2.2 (e ▸ he)
 · rw [hg] at he; injection he with he; omega
theorem PtSt.blk (h : PtSt w0 w pb ob x v ns) (hb : w'.heap[r]? = some o) (hr : w.heap.size ≤ r) : PBlk w' pb ob v r o := by
 obtain ⟨S, vs, h1, -⟩ := h.got.out
 have h2 := blk_lt h.tm
 have h3 := h.obl
 refine ⟨hb, by omega, by omega, fun he => ?_⟩
 have := ownsRow_blk h1 he; omega
end
structure PtInv (w0 : World) (pb ob : Nat) (x0 : Pa) (R : List Mu.Node × Mu.PSt) (name : Mu.B) (g : Nat) (wr : World) (x : Pa) (v : Value) (ns : List Mu.Node) : Prop where
 st : PtSt w0 wr pb ob x v ns
 sx : x.s = x0.s
 pos : x.p ≤ x.s.size ∧ (0 < x.o.size ∧ x.o.size ≤ 1000) ∧ 0 < x.c.size ∧ x.c.size ≤ 1000
 fuel : x.bad = false → x.s.size + 2 ≤ g + x.p
 len : ns.length + 4 * g ≤ 34359738400
 deep : x.deep + g ≤ 8589934600
 res : (ns ++ (Mu.parts (L x.s) g (stOf x) name).1, (Mu.parts (L x.s) g (stOf x) name).2) = R
def PtPost (w0 : World) (pb : Nat) (x0 : Pa) (R : List Mu.Node × Mu.PSt) (e : Ending) (w' : World) : Prop :=
 ∃ (v : Value) (x : Pa), e = .returned v ∧ Fr (· = pb) w0 w' ∧ PaAt w' pb x ∧ x.s = x0.s ∧ stOf x = R.2 ∧ (x.p ≤ x.s.size ∧ (0 < x.o.size ∧ x.o.size ≤ 1000) ∧ 0 < x.c.size ∧ x.c.size ≤ 1000) ∧ GotN w' w0.heap.size (fun k => k = pb) v R.1 ∧ ∃ g c, v = .slice (some ⟨g, 0, none⟩) R.1.length c
theorem PtSt.post {w0 w : World} {pb ob : Nat} {x x0 : Pa} {v : Value} {ns : List Mu.Node} (h : PtSt w0 w pb ob x v ns) (hs : x.s = x0.s) (hp : x.p ≤ x.s.size ∧ (0 < x.o.size ∧ x.o.size ≤ 1000) ∧ 0 < x.c.size ∧ x.c.size ≤ 1000) : PtPost w0 pb x0 (ns, stOf x) (.returned v) w :=
 ⟨v, x, rfl, h.fr, h.tm, hs, rfl, hp, h.got.own (fun k _ _ e => .inl e), h.form⟩
theorem parts_isbad (s : Mu.B) (g : Nat) (st : Mu.PSt) (name : Mu.B) (h : st.bad = true) : Mu.parts s g st name = ([], st) := by
 cases g with
 | zero => simp only [Mu.parts]; cases st; simp at h; subst h; rfl
 | succ g => rw [Mu.parts, if_pos h]
theorem found_at {s o c : Mu.B} {p a2 e : Nat} {t : Mu.Tag} (F : Mu.Found s p o c t a2 e) (ho : o ≠ []) (hc : c ≠ []) : t.at0 + o.length < t.to ∧ t.to ≤ s.length ∧ p ≤ t.at0 := by
 have hte := Mu.find_le F.fe (Mu.tagEnd_ne hc)
 have hae := (Mu.find_some F.fe).1
 have hpos : 0 < (Mu.tagEnd t.kind c).length := List.length_pos_iff.2 (Mu.tagEnd_ne hc)
 have h1 := F.ha
 have h2 := F.to
 have h3 := (Mu.find_some F.fo).1
 split at h1 <;> omega
theorem alOf_bounds {s : Mu.B} {t : Mu.Tag} {p : Nat} (h0 : t.at0 ≤ t.to) (h1 : t.to ≤ s.length) (hp : p ≤ t.at0) : t.to ≤ (Mu.alOf s t).2.1 ∧ (Mu.alOf s t).2.1 ≤ s.length ∧ p ≤ Mu.frOf s t p ∧ Mu.frOf s t p ≤ t.at0 := by
 have hb := Mu.backTo_le s 0 t.at0
 have hf := Mu.fwd_ge s t.to
 have hfl := Mu.fwd_le s t.to h1
 unfold Mu.frOf Mu.alOf
 split
 · unfold Mu.alone
   dsimp only
   split <;> (dsimp only; omega)
 · dsimp only; omega
theorem parts_inv (s : Mu.B) : ∀ (g : Nat) (st : Mu.PSt) (name : Mu.B), st.pos ≤ s.length → st.o ≠ [] → st.c ≠ [] →
 st.pos ≤ (Mu.parts s g st name).2.pos ∧ (Mu.parts s g st name).2.pos ≤ s.length ∧ (Mu.parts s g st name).2.deep = st.deep ∧ (Mu.parts s g st name).2.o ≠ [] ∧ (Mu.parts s g st name).2.c ≠ [] := by
 intro g
 induction g with
 | zero => intro st name h1 h2 h3; exact ⟨Nat.le_refl _, h1, rfl, h2, h3⟩
 | succ g ih =>
  intro st name h1 h2 h3
  by_cases hb : st.bad = true
  · rw [Mu.parts, if_pos hb]; exact ⟨Nat.le_refl _, h1, rfl, h2, h3⟩
  · have hb : st.bad = false := by simpa using hb
    cases hn : Mu.snext s st.pos st.o st.c with
    | none b => rw [Mu.parts_none hb hn]; exact ⟨h1, Nat.le_refl _, rfl, h2, h3⟩
    | some t =>
     obtain ⟨a2, e, F⟩ := Mu.snext_some hn;obtain ⟨f1, f2, f3⟩ := found_at F h2 h3;obtain ⟨a1, a2, -, -⟩ := alOf_bounds (s := s) (t := t) (p := st.pos) (by omega) f2 f3;have step : ∀ sx : Mu.PSt, sx.pos = (Mu.alOf s t).2.1 → sx.deep = st.deep → sx.o ≠ [] → sx.c ≠ [] →
      st.pos ≤ (Mu.parts s g sx name).2.pos ∧ (Mu.parts s g sx name).2.pos ≤ s.length ∧ (Mu.parts s g sx name).2.deep = st.deep ∧ (Mu.parts s g sx name).2.o ≠ [] ∧ (Mu.parts s g sx name).2.c ≠ [] := by
      intro sx p1 p2 p3 p4;obtain ⟨r1, r2, r3, r4⟩ := ih sx name (by omega) p3 p4;exact ⟨by omega, r2, r3.trans p2, r4⟩
     by_cases k33 : t.kind = 33
     · rw [Mu.parts_33 hb hn k33]; exact step _ rfl rfl h2 h3
     by_cases k61 : t.kind = 61
     · rw [Mu.parts_61 hb hn k61]
       have : (Mu.st61 s t st).pos = (Mu.alOf s t).2.1 ∧ (Mu.st61 s t st).deep = st.deep ∧ (Mu.st61 s t st).o ≠ [] ∧ (Mu.st61 s t st).c ≠ [] := by
        unfold Mu.st61
        cases hd : Mu.delim t.body st.o with
        | none => exact ⟨rfl, rfl, h2, h3⟩
        | some oc =>
         obtain ⟨o', c'⟩ := oc;have hp := Mu.pairs_ne (Mu.delim_some hd).1;exact ⟨rfl, rfl, hp.1, hp.2.1⟩
       exact step _ this.1 this.2.1 this.2.2.1 this.2.2.2
     by_cases k47 : t.kind = 47
     · rw [Mu.parts_47 hb hn k47]
       exact ⟨by show st.pos ≤ (Mu.alOf s t).2.1; omega, a2, rfl, h2, h3⟩
     by_cases k35 : t.kind = 35 ∨ t.kind = 94
     · rw [Mu.parts_35 hb hn k35]
       obtain ⟨r1, r2, r3, r4, r5⟩ := ih (Mu.st35 s t st) t.body a2 h2 h3;have r1 : (Mu.alOf s t).2.1 ≤ (Mu.parts s g (Mu.st35 s t st) t.body).2.pos := r1;have r3 : (Mu.parts s g (Mu.st35 s t st) t.body).2.deep = st.deep + 1 := r3;obtain ⟨q1, q2, q3, q4⟩ := ih (Mu.back (Mu.parts s g (Mu.st35 s t st) t.body).2) name r2 r4 r5
       have q1 : (Mu.parts s g (Mu.st35 s t st) t.body).2.pos ≤ (Mu.parts s g (Mu.back (Mu.parts s g (Mu.st35 s t st) t.body).2) name).2.pos := q1;refine ⟨by show st.pos ≤ (Mu.parts s g (Mu.back (Mu.parts s g (Mu.st35 s t st) t.body).2) name).2.pos; omega, q2, q3.trans ?_, q4⟩;show (Mu.parts s g (Mu.st35 s t st) t.body).2.deep - 1 = st.deep;omega
     by_cases k62 : t.kind = 62
     · rw [Mu.parts_62 hb hn k62]; exact step _ rfl rfl h2 h3
     · have hkk : ¬ Mu.kinded t.kind := by
        rintro ⟨a, b, c⟩
        rcases (Mu.kind_isKind F) with h | h
        · exact a h
        · rcases Mu.isKind_cases h with h | h | h | h | h | h | h | h
          · exact k35 (.inl h)
          · exact k35 (.inr h)
          · exact k47 h
          · exact k33 h
          · exact k62 h
          · exact b h
          · exact k61 h
          · exact c h
       rw [Mu.parts_var hb hn hkk]; exact step _ rfl rfl h2 h3
theorem PtInv.next {w0 wr w' : World} {pb ob : Nat} {x0 x x3 : Pa} {R : List Mu.Node × Mu.PSt} {nm : Mu.B} {g : Nat} {v v3 : Value} {ns new : List Mu.Node} (HI : PtInv w0 pb ob x0 R nm (g + 1) wr x v ns) (hbad : x.bad = false)
 (hst : PtSt w0 w' pb ob x3 v3 (ns ++ new)) (hs : x3.s = x.s) (hpos : x3.p ≤ x3.s.size ∧ (0 < x3.o.size ∧ x3.o.size ≤ 1000) ∧ 0 < x3.c.size ∧ x3.c.size ≤ 1000) (hlt : x.p < x3.p) (hnl : new.length ≤ 2) (hdeep : x3.deep = x.deep)
 (hres : Mu.parts (L x.s) (g + 1) (stOf x) nm = (new ++ (Mu.parts (L x.s) g (stOf x3) nm).1, (Mu.parts (L x.s) g (stOf x3) nm).2)) : PtInv w0 pb ob x0 R nm g w' x3 v3 (ns ++ new) := by
 refine ⟨hst, hs.trans HI.sx, hpos, fun _ => ?_, ?_, ?_, ?_⟩
 · have := HI.fuel hbad; rw [hs]; omega
 · have := HI.len; rw [List.length_append]; omega
 · have := HI.deep; omega
 · have h := HI.res
   rw [hres] at h;rw [hs, ← h, List.append_assoc]
end Go.Proofs.YtfakghnpkdoclaaGreatDoor
