/-
  The specification's parts: regions. (Joined by wip/pack.py.)
-/
import Derived.Test.YtfakghnpkdoclaaGreatDoorGQ1
set_option linter.unusedVariables false
set_option linter.unusedSimpArgs false
set_option maxRecDepth 100000
set_option maxHeartbeats 8000000
namespace Go.Proofs.YtfakghnpkdoclaaGreatDoor
open Go.RowKit
open Go.Lib (hid)
theorem pt_r41 (ob lo g0 cp0 : Nat) (ns : List Mu.Node) (w : World) (own : Nat → Prop) (tb : Nat) (k : UInt8) (bd : ByteArray) (f t : Nat) (htb : TagAt w tb k bd f t) (ib : ByteArray) (HG : Hid (GotN w lo own (.slice (some ⟨g0, 0, none⟩) ns.length cp0) ns)) (hob : w.heap[ob]? = some (.cells #[(.slice (some ⟨g0, 0, none⟩) ns.length cp0)] 34 (0, 0))) (hown : own ob) (hlo : lo ≤ w.heap.size) (hownl : ∀ k, own k → k < w.heap.size) (hl : ns.length ≤ 85899346000)
 (Q : Exit → Act → World → Prop) (v0 v1 v2 v3 v4 v6 v8 v9 v10 v12 v13 v14 v15 v16 v17 v18 v19 v20 v21 v22 v23 v24 v25 v26 v27 v28 v29 v30 v31 v32 v33 v34 v35 v36 v37 v38 v39 v40 v41 v42 v43 v44 v45 v46 v47 v48 v49 v50 v51 v52 v53 v54 v55 v56 v57 v58 v59 v60 v61 v62 v63 v64 v65 v66 v67 v68 v69 v70 v71 v72 v73 v74 v75 v76 v77 v78 v79 v80 v81 v82 v83 v84 v85 v86 v87 v88 v89 v90 v91 v92 v93 v94 v95 v96 v97 v98 v99 v100 v101 v102 v103 v104 v105 v106 v107 v108 v109 v110 v111 v112 v113 v114 v115 v116 v117 v118 v119 v120 v121 v122 v123 v124 v125 v126 v127 v128 v129 v130 v131 v132 v133 v134 v135 v136 v137 v138 v139 v140 v141 v142 v143 v144 v145 v146 v147 v148 v149 v150 v151 v152 v153 v154 v155 v156 v157 v158 v159 v160 v161 v162 v163 v164 v165 v166 v167 v168 v169 v170 v171 v172 v173 v174 v175 v176 v177 v178 v179 v180 v181 v182 v183 v184 v185 v186 v187 v188 v189 v190 v191 v192 v193 v194 v195 v196 v197 v198 v199 v200 v201 v202 v203 v204 v205 v206 v207 v208 v209 v210 v211 v212 v213 v214 v215 v216 v217 v218 v219 v220 v221 v222 v223 v224 v225 v226 v227 v228 v229 v230 v231 v232 v233 v234 v235 v236 v237 v238 v239 v240 v241 v242 v243 v244 v245 v246 v247 v248 v249 v250 v251 v252 v253 v254 v255 v256 v257 v258 v259 v260 v261 v262 v263 v264 v265 v266 v267 v268 v269 v270 : Value) (hQ : ∀ (u261 u262 u263 u264 u265 u266 u267 u268 u269 v' : Value) (w' : World), NAdd lo own ob w w' (.slice (some ⟨g0, 0, none⟩) ns.length cp0) v' ns [Mu.Node.mk 5 (L bd) false (L ib) []] → Q .normal ⟨#[v0, v1, v2, v3, v4, .pointer (some ⟨ob, 0, none⟩), v6, .pointer (some ⟨tb, 0, none⟩), v8, v9, v10, .string ib, v12, v13, v14, v15, v16, v17, v18, v19, v20, v21, v22, v23, v24, v25, v26, v27, v28, v29, v30, v31, v32, v33, v34, v35, v36, v37, v38, v39, v40, v41, v42, v43, v44, v45, v46, v47, v48, v49, v50, v51, v52, v53, v54, v55, v56, v57, v58, v59, v60, v61, v62, v63, v64, v65, v66, v67, v68, v69, v70, v71, v72, v73, v74, v75, v76, v77, v78, v79, v80, v81, v82, v83, v84, v85, v86, v87, v88, v89, v90, v91, v92, v93, v94, v95, v96, v97, v98, v99, v100, v101, v102, v103, v104, v105, v106, v107, v108, v109, v110, v111, v112, v113, v114, v115, v116, v117, v118, v119, v120, v121, v122, v123, v124, v125, v126, v127, v128, v129, v130, v131, v132, v133, v134, v135, v136, v137, v138, v139, v140, v141, v142, v143, v144, v145, v146, v147, v148, v149, v150, v151, v152, v153, v154, v155, v156, v157, v158, v159, v160, v161, v162, v163, v164, v165, v166, v167, v168, v169, v170, v171, v172, v173, v174, v175, v176, v177, v178, v179, v180, v181, v182, v183, v184, v185, v186, v187, v188, v189, v190, v191, v192, v193, v194, v195, v196, v197, v198, v199, v200, v201, v202, v203, v204, v205, v206, v207, v208, v209, v210, v211, v212, v213, v214, v215, v216, v217, v218, v219, v220, v221, v222, v223, v224, v225, v226, v227, v228, v229, v230, v231, v232, v233, v234, v235, v236, v237, v238, v239, v240, v241, v242, v243, v244, v245, v246, v247, v248, v249, v250, v251, v252, v253, v254, v255, v256, v257, v258, v259, v260, u261, u262, u263, u264, u265, u266, u267, u268, u269, v270], []⟩ w') :
 (regionAt Tryz.f37 41).wp Tryz.prog Q ⟨#[v0, v1, v2, v3, v4, .pointer (some ⟨ob, 0, none⟩), v6, .pointer (some ⟨tb, 0, none⟩), v8, v9, v10, .string ib, v12, v13, v14, v15, v16, v17, v18, v19, v20, v21, v22, v23, v24, v25, v26, v27, v28, v29, v30, v31, v32, v33, v34, v35, v36, v37, v38, v39, v40, v41, v42, v43, v44, v45, v46, v47, v48, v49, v50, v51, v52, v53, v54, v55, v56, v57, v58, v59, v60, v61, v62, v63, v64, v65, v66, v67, v68, v69, v70, v71, v72, v73, v74, v75, v76, v77, v78, v79, v80, v81, v82, v83, v84, v85, v86, v87, v88, v89, v90, v91, v92, v93, v94, v95, v96, v97, v98, v99, v100, v101, v102, v103, v104, v105, v106, v107, v108, v109, v110, v111, v112, v113, v114, v115, v116, v117, v118, v119, v120, v121, v122, v123, v124, v125, v126, v127, v128, v129, v130, v131, v132, v133, v134, v135, v136, v137, v138, v139, v140, v141, v142, v143, v144, v145, v146, v147, v148, v149, v150, v151, v152, v153, v154, v155, v156, v157, v158, v159, v160, v161, v162, v163, v164, v165, v166, v167, v168, v169, v170, v171, v172, v173, v174, v175, v176, v177, v178, v179, v180, v181, v182, v183, v184, v185, v186, v187, v188, v189, v190, v191, v192, v193, v194, v195, v196, v197, v198, v199, v200, v201, v202, v203, v204, v205, v206, v207, v208, v209, v210, v211, v212, v213, v214, v215, v216, v217, v218, v219, v220, v221, v222, v223, v224, v225, v226, v227, v228, v229, v230, v231, v232, v233, v234, v235, v236, v237, v238, v239, v240, v241, v242, v243, v244, v245, v246, v247, v248, v249, v250, v251, v252, v253, v254, v255, v256, v257, v258, v259, v260, v261, v262, v263, v264, v265, v266, v267, v268, v269, v270], []⟩ w := by
 obtain ⟨i0, hi, hz0, hz1, hz2⟩ := info_parts infoNode
 obtain ⟨S, vs, ho1, hns1, hS, hrow⟩ := HG.out.out
 have HO1 := hid ho1
 have HQ := hid hQ
 have HOWN := hid hown
 have HOWNL := hid hownl
 have HOB := hid hob
 have hn1 : ns.length + 1 ≤ maxLen := by unfold maxLen; omega
 have hn2 : (ns.length + 1) * 72 ≤ 140737488355328 := by omega
 have ob0 := blk_cell hob 0
 have obf := blk_free hob 0
 have hobl := blk_lt hob
 have HROW := hid hrow
 have q1 : ((ns.length : Int) < (ns.length : Int) + 1) = True := eq_true (by omega)
 have HS := hid hS
 have HNS := hid hns1
 have hne0 : ob ≠ g0 := fun e => (hrow g0 rfl).2 (e ▸ hown)
 have HNE0 := hid hne0
 have t0 := blk_cell htb 0
 have t1 := blk_cell htb 1
 have htbl := blk_lt htb
 simp only [List.getElem?_toArray, List.getElem?_cons_zero, List.getElem?_cons_succ] at t0 t1
 clear htb
 clear hown hownl hQ hne0 hob
 simp only [List.getElem?_toArray, List.getElem?_cons_zero] at ob0
 conv => arg 2; whnf
 refine wp_region_noPanic ?_
 go_region_law (refine step_append_lies _ (by rfl) _ _ 34 (by rfl) 0 38 i0 (.agg #[.int .i64 0, .string ⟨#[]⟩, .bool false, .string ⟨#[]⟩, .slice none 0 0]) 5 72 Tryz.underlying34 hi hz0 hz1 hz2 rfl (by decide) (.slice (some ⟨g0, 0, none⟩) ns.length cp0) ns.length vs (by rfl) ((HO1.out.alloc _).drew) ⟨w.heap.size, 0, none⟩ 1 1 zeroNode (by rfl) (by rfl) (zeroNode_new w) zeroNode_one (by decide) hn1 hn2 (Nat.zero_le _) (w.heap.size + 1) (by simp) ?_; intro gg cp w2 hown2 hgrow hat hlt; have hgrow2 := grown_drew0 hgrow; obtain ⟨d0, d1, d2, d3, d4, f0, f1, f2, f3, f4⟩ := node_room hown2 HO1.out.1; have hob2 := (hgrow2.block ob (by simp; omega) (fun e => HNE0.out (by simpa [Value.ownBlock] using e))).trans (blk_alloc (.cells #[.int .i64 0, .string ⟨#[]⟩, .bool false, .string ⟨#[]⟩, .slice none 0 0] 38) HOB.out); have e0 := blk_cell hob2 0; have ef := blk_free hob2 0; simp only [List.getElem?_toArray, List.getElem?_cons_zero] at e0; have hgo : gg ≠ ob := (nd_ne (HROW.out) HOWN.out hobl hat); have HGR := hid hgrow2; have HO2 := hid hown2; have HAT := hid hat; clear hgrow hgrow2 hown2 hat hob2)
 all_goals
  have N1 := nd_add (gg := gg) (cp := cp) (c0 := (.int .i64 5)) (c1 := (.string bd)) (c2 := (.bool false)) (c3 := (.string ib)) (c4 := (.slice none 0 0)) (Sn := fun _ => False) HO1.out HNS.out HS.out HROW.out HOB.out HOWN.out hlo HOWNL.out (Fr.alloc _ _ _) HO2.out HGR.out HAT.out (by simp) (nat_leaf _ _ 5 bd false ib) (fun k hk => hk.elim);have N2 := N1;rw [nd_swap hgo] at N2
  refine HQ.out _ _ _ _ _ _ _ _ _ (.slice (some ⟨gg, 0, none⟩) (ns.length + 1) cp) _ ?_
  first | with_reducible exact N1 | with_reducible exact N2
end Go.Proofs.YtfakghnpkdoclaaGreatDoor
