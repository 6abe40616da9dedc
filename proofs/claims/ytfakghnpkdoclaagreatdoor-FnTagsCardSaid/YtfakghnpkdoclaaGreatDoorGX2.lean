/-
  The package's parse: regions. (Joined by wip/pack.py.)
-/
import Derived.Test.YtfakghnpkdoclaaGreatDoorGR1
import Derived.Test.YtfakghnpkdoclaaGreatDoorGX1
set_option linter.unusedVariables false
set_option linter.unusedSimpArgs false
set_option maxRecDepth 100000
set_option maxHeartbeats 8000000
namespace Go.Proofs.YtfakghnpkdoclaaGreatDoor
open Go.RowKit
structure TopSt (w : World) (lo t : Nat) (x : Tm) (es : List Mu.Elem) : Prop where
 tm : TmAt w t x
 lw : lo ≤ w.heap.size
 got : Got w lo (fun k => k = t) x.prov x.el es
theorem TopSt.ownlt {w : World} {lo t : Nat} {x : Tm} {es : List Mu.Elem} (h : TopSt w lo t x es) : ∀ k, (k = t) → k < w.heap.size := by
 rintro k rfl
 exact blk_lt h.tm
def TopAdd (lo : Nat) (w1 w' : World) (t : Nat) (x : Tm) (es : List Mu.Elem) (e : Mu.Elem) : Prop :=
 ∃ v', Fr (fun k => k = t ∨ x.el.ownBlock = some k) w1 w' ∧ TopSt w' lo t { x with el := v' } (es ++ [e]) ∧ (v'.ownBlock = x.el.ownBlock ∨ ∃ g, v'.ownBlock = some g ∧ w1.heap.size ≤ g)
theorem top_add {w w1 w2 : World} {lo t : Nat} {x : Tm} {es : List Mu.Elem} {e : Mu.Elem} {v' u : Value} {S Sn : Nat → Prop} {vs : List Value} (hst : TopSt w lo t x es)
 (h2 : EsAt w S x.prov es vs) (h3 : ∀ k, S k → (lo ≤ k ∧ k < w.heap.size) ∧ x.el.ownBlock ≠ some k ∧ ¬ (k = t)) (h4 : ∀ k, x.el.ownBlock = some k → ¬ (k = t))
 (hf : F0 w w1) (hu : EAt w1 Sn x.prov e u) (hSn : ∀ k, Sn k → (lo ≤ k ∧ k < w1.heap.size) ∧ x.el.ownBlock ≠ some k ∧ ¬ (k = t))
 (ho : w2.ownsRow 0 20 1 v' (es.length + 1) (vs ++ [u])) (hg : w1.grownBy w2 x.el.ownBlock) {n : Nat} (hn : n = w1.heap.size) (hb : v'.ownBlock = x.el.ownBlock ∨ v'.ownBlock = some n) :
 TopAdd lo w (w2.setCell ⟨t, 5, none⟩ v') t x es e := by
 have hs := hf.size
 have hs2 := hg.size
 have e2 := own_cells hst.got hf hg (k := t) rfl (blk_lt hst.tm)
 have G := got_add h2 h3 h4 hf (fun k hk => by have := hst.ownlt k hk; omega) hu hSn ho hg hn hb
 have htm : TmAt w2 t x := e2.trans hst.tm
 refine ⟨v', ?_, ⟨htm.set5 v', by have := hst.lw; simp [World.setCell]; omega, G.fr (M := fun k => k = t) (Fr.setCell _ _ _ (.inl rfl)) (fun k _ h => h)⟩, ?_⟩
 · exact ((Fr.of0 hf).trans' (Fr.grown (M := fun k => k = t ∨ x.el.ownBlock = some k) hg (fun k h => .inl (.inr h))) (fun _ _ h => h)).trans (Fr.setCell _ _ _ (.inl (.inl rfl)))
 · rcases hb with hb | hb
   · exact .inl hb
   · exact .inr ⟨n, hb, by omega⟩
structure TopMid (w0 : World) (lo t : Nat) (x0 : Tm) (wr : World) (x : Tm) (es : List Mu.Elem) : Prop where
 st : TopSt wr lo t x es
 fr : Fr (fun k => k = t ∨ x0.el.ownBlock = some k) w0 wr
 sx : x.s = x0.s ∧ x.raw = x0.raw ∧ x.prov = x0.prov ∧ x.esc = x0.esc ∧ x.am = x0.am
 ow : x.el.ownBlock = x0.el.ownBlock ∨ ∃ k, x.el.ownBlock = some k ∧ w0.heap.size ≤ k
theorem TopMid.tstep {w0 : World} {lo t : Nat} {x0 : Tm} {w w' : World} {x x' : Tm} {es : List Mu.Elem} (h : TopMid w0 lo t x0 w x es) (hf : Fr (· = t) w w') (ht : TmAt w' t x')
 (hx : x'.s = x.s ∧ x'.raw = x.raw ∧ x'.prov = x.prov ∧ x'.esc = x.esc ∧ x'.am = x.am ∧ x'.el = x.el) : TopMid w0 lo t x0 w' x' es := by
 obtain ⟨e1, e2, e3, e4, e5, e6⟩ := hx
 obtain ⟨d1, d2, d3, d4, d5⟩ := h.sx
 refine ⟨⟨ht, by have := h.st.lw; have := hf.size; omega, ?_⟩, h.fr.trans' hf (fun k _ h => .inl h), ⟨e1.trans d1, e2.trans d2, e3.trans d3, e4.trans d4, e5.trans d5⟩, by rw [e6]; exact h.ow⟩
 rw [e3, e6]
 exact h.st.got.fr hf (fun k _ h => h)
theorem TopMid.step0 {w0 : World} {lo t : Nat} {x0 : Tm} {w w' : World} {x : Tm} {es : List Mu.Elem} (h : TopMid w0 lo t x0 w x es) (hf : F0 w w') : TopMid w0 lo t x0 w' x es :=
 h.tstep (Fr.of0 hf) (h.st.tm.fr0 hf) ⟨rfl, rfl, rfl, rfl, rfl, rfl⟩
theorem TopMid.add {w0 : World} {lo t : Nat} {x0 : Tm} {w w' : World} {x : Tm} {es : List Mu.Elem} {e : Mu.Elem} (h : TopMid w0 lo t x0 w x es) (ha : TopAdd lo w w' t x es e) :
 ∃ v', TopMid w0 lo t x0 w' { x with el := v' } (es ++ [e]) ∧ Fr (fun k => k = t ∨ x.el.ownBlock = some k) w w' ∧ (v'.ownBlock = x.el.ownBlock ∨ ∃ g, v'.ownBlock = some g ∧ w.heap.size ≤ g) := by
 obtain ⟨v', hf, hst, ho⟩ := ha
 have hsz := h.fr.size
 refine ⟨v', ⟨hst, h.fr.trans' hf (fun k hk hm => ?_), h.sx, ?_⟩, hf, ho⟩
 · rcases hm with hm | hm
   · exact .inl hm
   · rcases h.ow with ho | ⟨j, hj, hlt⟩
     · exact .inr (ho ▸ hm)
     · rw [hj] at hm; injection hm with hm; omega
 · rcases ho with ho | ⟨g, hg, hlt⟩
   · show v'.ownBlock = _ ∨ _
     rw [ho]; exact h.ow
   · exact .inr ⟨g, hg, by omega⟩
def TBlk (w : World) (t : Nat) (v : Value) (r : Nat) (o : Obj) : Prop := w.heap[r]? = some o ∧ r ≠ t ∧ v.ownBlock ≠ some r
theorem TBlk.tstep {w w' : World} {t : Nat} {v : Value} {r : Nat} {o : Obj} (h : TBlk w t v r o) (hf : Fr (· = t) w w') : TBlk w' t v r o := ⟨hf.blk h.1 h.2.1, h.2⟩
theorem TBlk.step0 {w w' : World} {t : Nat} {v : Value} {r : Nat} {o : Obj} (h : TBlk w t v r o) (hf : F0 w w') : TBlk w' t v r o := ⟨hf.blk h.1 id, h.2⟩
theorem TBlk.add {w w' : World} {t : Nat} {v v' : Value} {r : Nat} {o : Obj} (h : TBlk w t v r o) (hf : Fr (fun k => k = t ∨ v.ownBlock = some k) w w') (ho : v'.ownBlock = v.ownBlock ∨ ∃ g, v'.ownBlock = some g ∧ w.heap.size ≤ g) :
 TBlk w' t v' r o := by
 have hr := blk_lt h.1
 refine ⟨hf.blk h.1 (fun hm => hm.elim h.2.1 h.2.2), h.2.1, fun he => ?_⟩
 rcases ho with ho | ⟨g, hg, hlt⟩
 · exact h.2.2 (ho ▸ he)
 · rw [hg] at he; injection he with he; omega
theorem TopMid.blk {w0 : World} {lo t : Nat} {x0 : Tm} {w w' : World} {x : Tm} {es : List Mu.Elem} (h : TopMid w0 lo t x0 w x es) {r : Nat} {o : Obj} (hb : w'.heap[r]? = some o) (hr : w.heap.size ≤ r) : TBlk w' t x.el r o := by
 obtain ⟨S, vs, h1, -⟩ := h.st.got.out
 have h2 := blk_lt h.st.tm
 refine ⟨hb, by omega, fun he => ?_⟩
 have := ownsRow_blk h1 he; omega
structure TopInv (w0 : World) (lo t : Nat) (x0 : Tm) (R : Option (List Mu.Elem × Mu.ISt)) (g : Nat) (wr : World) (x : Tm) (es : List Mu.Elem) : Prop where
 mid : TopMid w0 lo t x0 wr x es
 pos : x.p ≤ x.s.size ∧ (0 < x.o.size ∧ x.o.size ≤ 1000) ∧ 0 < x.c.size ∧ x.c.size ≤ 1000
 len : es.length + 4 * g ≤ 8589934600
 res : Mu.pre es (Mu.iparse (L x.s) x.raw g 0 ⟨x.p, L x.o, L x.c⟩ none) = some R
def TopPost (w0 : World) (lo t : Nat) (x0 : Tm) (R : Option (List Mu.Elem × Mu.ISt)) (e : Ending) (w' : World) : Prop :=
 match R with
 | none => (∃ T v, e = .returned (.iface T v)) ∧ Fr (fun k => k = t ∨ x0.el.ownBlock = some k) w0 w'
 | some (es, _) => e = .returned .nilIface ∧ ∃ x, TopMid w0 lo t x0 w' x es
end Go.Proofs.YtfakghnpkdoclaaGreatDoor
namespace Go.Proofs.YtfakghnpkdoclaaGreatDoor
open Go.RowKit
open Go.Lib (hid)
theorem top_r16 (t lo : Nat) (tb : ByteArray) (x : Tm) (es : List Mu.Elem) (w : World) (HS : Hid (TopSt w lo t x es)) (hl : es.length ≤ 8589934600) (Q : Exit → Act → World → Prop) (v1 v2 v3 v4 v5 v6 v7 v8 v10 v11 v12 v13 v14 v15 v16 v17 v18 v19 v20 v21 v22 v23 v24 v25 v26 v27 v28 v29 v30 v31 v32 v33 v34 v35 v36 v37 v38 v39 v40 v41 v42 v43 v44 v45 v46 v47 v48 v49 v50 v51 v52 v53 v54 v55 v56 v57 v58 v59 v60 v61 v62 v63 v64 v65 v66 v67 v68 v69 v70 v71 v72 v73 v74 v75 v76 v77 v78 v79 v80 v81 v82 v83 v84 v85 v86 v87 v88 v89 v90 v91 v92 v93 v94 v95 v96 v97 v98 v99 v100 v101 v102 v103 v104 v105 v106 v107 v108 v109 v110 v111 v112 v113 v114 v115 v116 v117 v118 v119 v120 v121 v122 v123 v124 v125 v126 v127 v128 v129 v130 v131 v132 v133 v134 v135 v136 v137 v138 v139 v140 v141 v142 v143 v144 v145 v146 v147 v148 v149 v150 v151 v152 v153 v154 v155 v156 v157 v158 v159 v160 v161 v162 v163 v164 v165 v166 v167 v168 v169 v170 v171 v172 v173 v174 v175 v176 v177 v178 v179 v180 v181 v182 v183 v184 v185 v186 v187 v188 v189 v190 v191 v192 v193 v194 v195 v196 v197 v198 v199 v200 v201 v202 v203 v204 v205 v206 v207 v208 v209 v210 v211 v212 v213 v214 v215 v216 v217 v218 v219 v220 v221 v222 v223 v224 v225 v226 v227 v228 v229 v230 v231 v232 v233 v234 v235 v236 : Value)
 (hQ : ∀ (u100 u101 u102 u103 u104 u105 u106 u107 u108 u109 u110 u111 u112 u113 u114 u115 u116 : Value) (w' : World), TopAdd lo w w' t x es (Mu.Elem.var (L tb) x.raw) → Q .normal ⟨#[.pointer (some ⟨t, 0, none⟩), v1, v2, v3, v4, v5, v6, v7, v8, .string tb, v10, v11, v12, v13, v14, v15, v16, v17, v18, v19, v20, v21, v22, v23, v24, v25, v26, v27, v28, v29, v30, v31, v32, v33, v34, v35, v36, v37, v38, v39, v40, v41, v42, v43, v44, v45, v46, v47, v48, v49, v50, v51, v52, v53, v54, v55, v56, v57, v58, v59, v60, v61, v62, v63, v64, v65, v66, v67, v68, v69, v70, v71, v72, v73, v74, v75, v76, v77, v78, v79, v80, v81, v82, v83, v84, v85, v86, v87, v88, v89, v90, v91, v92, v93, v94, v95, v96, v97, v98, v99, u100, u101, u102, u103, u104, u105, u106, u107, u108, u109, u110, u111, u112, u113, u114, u115, u116, v117, v118, v119, v120, v121, v122, v123, v124, v125, v126, v127, v128, v129, v130, v131, v132, v133, v134, v135, v136, v137, v138, v139, v140, v141, v142, v143, v144, v145, v146, v147, v148, v149, v150, v151, v152, v153, v154, v155, v156, v157, v158, v159, v160, v161, v162, v163, v164, v165, v166, v167, v168, v169, v170, v171, v172, v173, v174, v175, v176, v177, v178, v179, v180, v181, v182, v183, v184, v185, v186, v187, v188, v189, v190, v191, v192, v193, v194, v195, v196, v197, v198, v199, v200, v201, v202, v203, v204, v205, v206, v207, v208, v209, v210, v211, v212, v213, v214, v215, v216, v217, v218, v219, v220, v221, v222, v223, v224, v225, v226, v227, v228, v229, v230, v231, v232, v233, v234, v235, v236], []⟩ w') :
 (regionAt Tryz.f70 16).wp Tryz.prog Q ⟨#[.pointer (some ⟨t, 0, none⟩), v1, v2, v3, v4, v5, v6, v7, v8, .string tb, v10, v11, v12, v13, v14, v15, v16, v17, v18, v19, v20, v21, v22, v23, v24, v25, v26, v27, v28, v29, v30, v31, v32, v33, v34, v35, v36, v37, v38, v39, v40, v41, v42, v43, v44, v45, v46, v47, v48, v49, v50, v51, v52, v53, v54, v55, v56, v57, v58, v59, v60, v61, v62, v63, v64, v65, v66, v67, v68, v69, v70, v71, v72, v73, v74, v75, v76, v77, v78, v79, v80, v81, v82, v83, v84, v85, v86, v87, v88, v89, v90, v91, v92, v93, v94, v95, v96, v97, v98, v99, v100, v101, v102, v103, v104, v105, v106, v107, v108, v109, v110, v111, v112, v113, v114, v115, v116, v117, v118, v119, v120, v121, v122, v123, v124, v125, v126, v127, v128, v129, v130, v131, v132, v133, v134, v135, v136, v137, v138, v139, v140, v141, v142, v143, v144, v145, v146, v147, v148, v149, v150, v151, v152, v153, v154, v155, v156, v157, v158, v159, v160, v161, v162, v163, v164, v165, v166, v167, v168, v169, v170, v171, v172, v173, v174, v175, v176, v177, v178, v179, v180, v181, v182, v183, v184, v185, v186, v187, v188, v189, v190, v191, v192, v193, v194, v195, v196, v197, v198, v199, v200, v201, v202, v203, v204, v205, v206, v207, v208, v209, v210, v211, v212, v213, v214, v215, v216, v217, v218, v219, v220, v221, v222, v223, v224, v225, v226, v227, v228, v229, v230, v231, v232, v233, v234, v235, v236], []⟩ w := by
 obtain ⟨i0, hi, hz0, hz1, hz2⟩ := info_parts infoAny
 have HQ := hid hQ
 clear hQ
 have b3 := HS.out.tm.cells.2.2.2.2.2.1
 have bf := HS.out.tm.free 5
 have htl : t < w.heap.size := blk_lt HS.out.tm
 have h6 := HS.out.tm.cells.2.2.2.2.2.2.1
 obtain ⟨S, vs, ho1, hes1, hS, hrow⟩ := HS.out.got.out
 have HO1 := hid ho1
 have hn1 : es.length + 1 ≤ maxLen := by unfold maxLen; omega
 have hn2 : (es.length + 1) * 16 ≤ 140737488355328 := by omega
 have HADD : Hid (∀ (gg cp : Nat) (w2 : World), w2.ownsRow 0 20 1 (.slice (some ⟨gg, 0, none⟩) (es.length + 1) cp) (es.length + 1) (vs ++ [pv 173 w.heap.size]) → ((w.alloc (.cells #[.string tb, .bool x.raw] 175)).alloc (.cells #[pv 173 w.heap.size] 20)).grownBy w2 x.el.ownBlock → (x.el.ownBlock = some gg ∨ gg = w.heap.size + 2) →
  TopAdd lo w (w2.setCell ⟨t, 5, none⟩ (.slice (some ⟨gg, 0, none⟩) (es.length + 1) cp)) t x es (Mu.Elem.var (L tb) x.raw)) := hid (fun gg cp w2 hown2 hgrow hat =>
  top_add HS.out hes1 hS hrow (fr_two w (.cells #[.string tb, .bool x.raw] 175) (.cells #[pv 173 w.heap.size] 20)) (var_at w tb x.raw _ _) (fresh_ok HS.out.got HS.out.lw HS.out.ownlt (fun k hk => ⟨hk.1, by simp; omega⟩)) hown2 hgrow (n := w.heap.size + 2) (by simp) (own_at hat))
 clear ho1 hes1 hS hrow
 conv => arg 2; whnf
 refine wp_region_noPanic ?_
 go_region_law (refine step_append_lies _ (by rfl) _ _ 66 (by rfl) 0 20 i0 .nilIface 1 16 Tryz.underlying66 hi hz0 hz1 hz2 rfl (by decide) x.el es.length vs (by rfl) (((HO1.out.alloc _).alloc _).drew) ⟨w.heap.size + 1, 0, none⟩ 1 1 [pv 173 w.heap.size] (by rfl) (by rfl) (one_new' _ _ _ (by simp)) (one_cell rfl) (by decide) hn1 hn2 (Nat.zero_le _) (w.heap.size + 2) (by simp) ?_; intro gg cp w2 hown2 hgrow hat hlt; have hsb := (own_cells HS.out.got (fr_two w (.cells #[.string tb, .bool x.raw] 175) (.cells #[pv 173 w.heap.size] 20)) (grown_drew hgrow) (k := t) (rfl) htl).trans HS.out.tm; have k3 := blk_cell hsb 5; have kf := blk_free hsb 5)
 all_goals exact HQ.out _ _ _ _ _ _ _ _ _ _ _ _ _ _ _ _ _ _ (HADD.out _ _ _ hown2 (grown_drew hgrow) hat)
theorem top_r21 (t : Nat) (tb nb : ByteArray) (htb : 0 < tb.size) (x : Tm) (w : World) (ht : TmAt w t x) (Q : Exit → Act → World → Prop) (v1 v2 v3 v4 v5 v6 v7 v8 v11 v12 v13 v14 v15 v16 v17 v18 v19 v20 v21 v22 v23 v24 v25 v26 v27 v28 v29 v30 v31 v32 v33 v34 v35 v36 v37 v38 v39 v40 v41 v42 v43 v44 v45 v46 v47 v48 v49 v50 v51 v52 v53 v54 v55 v56 v57 v58 v59 v60 v61 v62 v63 v64 v65 v66 v67 v68 v69 v70 v71 v72 v73 v74 v75 v76 v77 v78 v79 v80 v81 v82 v83 v84 v85 v86 v87 v88 v89 v90 v91 v92 v93 v94 v95 v96 v97 v98 v99 v100 v101 v102 v103 v104 v105 v106 v107 v108 v109 v110 v111 v112 v113 v114 v115 v116 v117 v118 v119 v120 v121 v122 v123 v124 v125 v126 v127 v128 v129 v130 v131 v132 v133 v134 v135 v136 v137 v138 v139 v140 v141 v142 v143 v144 v145 v146 v147 v148 v149 v150 v151 v152 v153 v154 v155 v156 v157 v158 v159 v160 v161 v162 v163 v164 v165 v166 v167 v168 v169 v170 v171 v172 v173 v174 v175 v176 v177 v178 v179 v180 v181 v182 v183 v184 v185 v186 v187 v188 v189 v190 v191 v192 v193 v194 v195 v196 v197 v198 v199 v200 v201 v202 v203 v204 v205 v206 v207 v208 v209 v210 v211 v212 v213 v214 v215 v216 v217 v218 v219 v220 v221 v222 v223 v224 v225 v226 v227 v228 v229 v230 v231 v232 v233 v234 v235 v236 : Value)
 (hQ : ∀ (u125 u126 u127 u128 u129 u130 u131 u132 u133 u134 : Value) (b2 g2 : Nat) (w' : World), NewSe w w' nb ((tb[0].toNat : Int) == 94) x.line b2 g2 → Q .normal ⟨#[.pointer (some ⟨t, 0, none⟩), v1, v2, v3, v4, v5, v6, v7, v8, .string tb, .string nb, .pointer (some ⟨b2, 0, none⟩), v12, v13, v14, v15, v16, v17, v18, v19, v20, v21, v22, v23, v24, v25, v26, v27, v28, v29, v30, v31, v32, v33, v34, v35, v36, v37, v38, v39, v40, v41, v42, v43, v44, v45, v46, v47, v48, v49, v50, v51, v52, v53, v54, v55, v56, v57, v58, v59, v60, v61, v62, v63, v64, v65, v66, v67, v68, v69, v70, v71, v72, v73, v74, v75, v76, v77, v78, v79, v80, v81, v82, v83, v84, v85, v86, v87, v88, v89, v90, v91, v92, v93, v94, v95, v96, v97, v98, v99, v100, v101, v102, v103, v104, v105, v106, v107, v108, v109, v110, v111, v112, v113, v114, v115, v116, v117, v118, v119, v120, v121, v122, v123, v124, u125, u126, u127, u128, u129, u130, u131, u132, u133, u134, v135, v136, v137, v138, v139, v140, v141, v142, v143, v144, v145, v146, v147, v148, v149, v150, v151, v152, v153, v154, v155, v156, v157, v158, v159, v160, v161, v162, v163, v164, v165, v166, v167, v168, v169, v170, v171, v172, v173, v174, v175, v176, v177, v178, v179, v180, v181, v182, v183, v184, v185, v186, v187, v188, v189, v190, v191, v192, v193, v194, v195, v196, v197, v198, v199, v200, v201, v202, v203, v204, v205, v206, v207, v208, v209, v210, v211, v212, v213, v214, v215, v216, v217, v218, v219, v220, v221, v222, v223, v224, v225, v226, v227, v228, v229, v230, v231, v232, v233, v234, v235, v236], []⟩ w') :
 (regionAt Tryz.f70 21).wp Tryz.prog Q ⟨#[.pointer (some ⟨t, 0, none⟩), v1, v2, v3, v4, v5, v6, v7, v8, .string tb, .string nb, v11, v12, v13, v14, v15, v16, v17, v18, v19, v20, v21, v22, v23, v24, v25, v26, v27, v28, v29, v30, v31, v32, v33, v34, v35, v36, v37, v38, v39, v40, v41, v42, v43, v44, v45, v46, v47, v48, v49, v50, v51, v52, v53, v54, v55, v56, v57, v58, v59, v60, v61, v62, v63, v64, v65, v66, v67, v68, v69, v70, v71, v72, v73, v74, v75, v76, v77, v78, v79, v80, v81, v82, v83, v84, v85, v86, v87, v88, v89, v90, v91, v92, v93, v94, v95, v96, v97, v98, v99, v100, v101, v102, v103, v104, v105, v106, v107, v108, v109, v110, v111, v112, v113, v114, v115, v116, v117, v118, v119, v120, v121, v122, v123, v124, v125, v126, v127, v128, v129, v130, v131, v132, v133, v134, v135, v136, v137, v138, v139, v140, v141, v142, v143, v144, v145, v146, v147, v148, v149, v150, v151, v152, v153, v154, v155, v156, v157, v158, v159, v160, v161, v162, v163, v164, v165, v166, v167, v168, v169, v170, v171, v172, v173, v174, v175, v176, v177, v178, v179, v180, v181, v182, v183, v184, v185, v186, v187, v188, v189, v190, v191, v192, v193, v194, v195, v196, v197, v198, v199, v200, v201, v202, v203, v204, v205, v206, v207, v208, v209, v210, v211, v212, v213, v214, v215, v216, v217, v218, v219, v220, v221, v222, v223, v224, v225, v226, v227, v228, v229, v230, v231, v232, v233, v234, v235, v236], []⟩ w := by
 have HQ := hid hQ
 clear hQ
 have h4 := ht.cells.2.2.2.2.1
 have htl : t < w.heap.size := blk_lt ht
 clear ht
 conv => arg 2; whnf
 refine wp_region_noPanic ?_
 go_region
 all_goals first | exact HQ.out _ _ _ _ _ _ _ _ _ _ _ _ _ (newSe_a w nb _ _) | exact HQ.out _ _ _ _ _ _ _ _ _ _ _ _ _ (newSe_b w nb _ _) | (trace_state; done )
end Go.Proofs.YtfakghnpkdoclaaGreatDoor
