/-
  THE LAW OF ABANDONING (seat b1835a): one round, the abandoning.
-/
import Derived.Test.YbulkakzcAb
import Derived.BigQuiet
namespace Go.Proofs.Ybulkakzc
open Go.RowKit
set_option linter.unusedSimpArgs false

/-- The code from a region on, in its own sequence. -/
def isR (n : Nat) : Code → Bool
  | .region k _ _ => k == n
  | .seq x _ => isR n x
  | _ => false
def fromR (n : Nat) : Code → Code
  | .seq x y => bif isR n x then .seq x y else match fromR n x with | .skip => fromR n y | z => z
  | .block _ c => fromR n c
  | .loop c => fromR n c
  | _ => .skip

set_option maxRecDepth 100000 in
set_option maxHeartbeats 8000000 in
theorem body2 (w0 wr wc : World) (a c : Int) (ao : Option Addr) (n cap : Nat) (m L tot : Int) (pf : Nat) (rb pm am mo qb : Nat) (pk : Int) (al ml : List En) (fl : List Fq) (qv : Value) (i : Nat) (sb kb mb : Nat) (x : Stp) (K : Act → World → Prop) (R : Ending → World → Prop) (v19 v20 v21 v22 v23 v24 v25 v26 v27 v28 v29 v30 v31 v32 v33 v34 v35 v36 v37 v38 v39 v40 v41 v42 v43 v44 v45 v46 v47 v48 v49 v50 v51 v52 v53 v54 v55 v56 v57 v58 v59 v60 v61 v62 v63 v64 v65 v66 v67 v68 v69 v70 v71 v72 v73 v74 v75 v76 v77 v78 v79 v80 v81 v82 v83 v84 v85 v86 v87 v88 v89 v90 v91 v92 v93 v94 v95 v96 v97 v98 v99 v100 v101 v102 v103 v104 v105 v106 v107 v108 v109 v110 v111 v112 v113 v114 v115 v116 v117 v118 v119 v120 v121 v122 v123 v124 v125 v126 v127 v128 v129 v130 v131 v132 v133 v134 v135 v136 v137 v138 v139 v140 v141 v142 v143 v144 v145 v146 v147 v148 v149 v150 v151 v152 v153 v154 v155 v156 v157 v158 v159 v160 v161 v162 v163 v164 v165 v166 v167 v168 v169 v170 v171 v172 v173 v174 v175 v176 v177 v178 v179 v180 v181 v182 v183 v184 v185 v186 v187 v188 v189 v190 v191 v192 v193 v194 v195 v196 v197 v198 v199 v200 v201 v202 v203 v204 v205 v206 v207 v208 v209 v210 v211 v212 v213 v214 v215 v216 v217 v218 v219 v220 v221 v222 v223 v224 v225 v226 v227 v228 v229 v230 v231 v232 v233 v234 v235 v236 v237 v238 v239 v240 v241 v242 v243 v244 v245 v246 v247 v248 v249 v250 v251 v252 v253 v254 v255 v256 v257 v258 v259 v260 v261 v262 v263 v264 v265 v266 v267 v268 v269 v270 v271 v272 v273 v274 v275 v276 v277 v278 v279 v280 v281 v282 v283 v284 v285 v286 v287 v288 v289 v290 v291 v292 v293 v294 v295 v296 v297 v298 v299 v300 v301 v302 v303 v304 v305 v306 v307 v308 v309 v310 v311 v312 v313 v314 v315 v316 v317 v318 v319 v320 v321 v322 v323 : Value)
    (hm : m = 0 ∨ m = 1 ∨ m = 2) (hI : Inv w0 wr rb pm am mo qb m pk al ml fl qv) (hx : x.Ok) (hP : Pd wr wc rb pm am m pk al fl sb kb mb x) (hsb : wr.heap.size ≤ sb) (hkb : wr.heap.size ≤ kb) (hmb : wr.heap.size ≤ mb) (hms : mb ≠ sb) (hmk : mb ≠ kb)
    (h33 : ∀ (v19 v20 v23 v24 v25 v26 v27 v28 v29 v30 v31 v32 v33 v34 v35 v36 v37 v38 v39 v40 v41 v42 v43 v44 v45 v46 v47 v48 v49 v50 v51 v52 v53 v54 v55 v56 v57 v58 v59 v60 v61 v62 v63 v64 v65 v66 v67 v68 v69 v70 v71 v72 v73 v74 v75 v76 v77 v78 v79 v80 v81 v82 v83 v84 v85 v86 v87 v88 v89 v90 v91 v92 v93 v94 v95 v96 v97 v98 v99 v100 v101 v102 v103 v104 v105 v106 v107 v108 v109 v110 v111 v112 v113 v114 v115 v116 v117 v118 v119 v120 v121 v122 v123 v124 v125 v126 v127 v128 v129 v130 v131 v132 v133 v134 v135 v136 v137 v138 v139 v140 v141 v142 v143 v144 v145 v146 v147 v148 v149 v150 v151 v152 v153 v154 v155 v156 v157 v158 v159 v160 v161 v162 v163 v164 v165 v166 v167 v168 v169 v170 v171 v172 v173 v174 v175 v176 v177 v178 v179 v180 v181 v182 v183 v184 v185 v186 v187 v188 v189 v190 v191 v192 v193 v194 v195 v196 v197 v198 v199 v200 v201 v202 v203 v204 v205 v206 v207 v208 v209 v210 v211 v212 v213 v214 v215 v216 v217 v218 v219 v220 v221 v222 v223 v224 v225 v226 v227 v228 v229 v230 v231 v232 v233 v234 v235 v236 v237 v238 v239 v240 v241 v242 v243 v244 v245 v246 v247 v248 v249 v250 v251 v252 v253 v254 v255 v256 v257 v258 v259 v260 v261 v262 v263 v264 v265 v266 v267 v268 v269 v270 v271 v272 v273 v274 v275 v276 v277 v278 v279 v280 v281 v282 v283 v284 v285 v286 v287 v288 v289 v290 v291 v292 v293 v294 v295 v296 v297 v298 v299 v300 v301 v302 v303 v304 v305 v306 v307 v308 v309 v310 v311 v312 v313 v314 v315 v316 v317 v318 v319 v320 v321 v322 v323 : Value) (w' : World) (rs : ByteArray) (db nb : Nat) (al6 : List En), keysOf al6 = kput x.key (keysOf (dropA m al fl)) → get x.key al6 = some (P2 nb 0) → Aft w0 w' rb pm am mo qb m (if pk < ((dropF m fl).length + 1 : Int) then ((dropF m fl).length + 1 : Int) else pk) al6 ml (dropF m fl ++ [⟨nb, x.key, 0, 0⟩]) qv (fl.map (·.k)) sb kb mb x → qb ≠ db → w'.heap[db]? = some (.cells (dg x.key (ver x.st) rs x.fr) 88 (0, 0)) → Code.wp Yba.prog (fromR 33 (Yba.f4.body.getD .skip)) (Exit.inBlock 2 (Exit.then K (bodyPost Yba.prog Yba.f4 R))) ⟨#[.int .u8 a, .int .u8 c, .slice ao n cap, undef, undef, undef, .bool false, .int .i64 m, P2 rb 0, .int .i64 L, .int .i64 (pf : Int), .int .i64 tot, qv, .map (some mo), .int .i64 pk, .int .i64 i, P2 sb 0, P2 kb 0, P2 mb 0, v19, v20, .string rs, P2 db 0, v23, v24, v25, v26, v27, v28, v29, v30, v31, v32, v33, v34, v35, v36, v37, v38, v39, v40, v41, v42, v43, v44, v45, v46, v47, v48, v49, v50, v51, v52, v53, v54, v55, v56, v57, v58, v59, v60, v61, v62, v63, v64, v65, v66, v67, v68, v69, v70, v71, v72, v73, v74, v75, v76, v77, v78, v79, v80, v81, v82, v83, v84, v85, v86, v87, v88, v89, v90, v91, v92, v93, v94, v95, v96, v97, v98, v99, v100, v101, v102, v103, v104, v105, v106, v107, v108, v109, v110, v111, v112, v113, v114, v115, v116, v117, v118, v119, v120, v121, v122, v123, v124, v125, v126, v127, v128, v129, v130, v131, v132, v133, v134, v135, v136, v137, v138, v139, v140, v141, v142, v143, v144, v145, v146, v147, v148, v149, v150, v151, v152, v153, v154, v155, v156, v157, v158, v159, v160, v161, v162, v163, v164, v165, v166, v167, v168, v169, v170, v171, v172, v173, v174, v175, v176, v177, v178, v179, v180, v181, v182, v183, v184, v185, v186, v187, v188, v189, v190, v191, v192, v193, v194, v195, v196, v197, v198, v199, v200, v201, v202, v203, v204, v205, v206, v207, v208, v209, v210, v211, v212, v213, v214, v215, v216, v217, v218, v219, v220, v221, v222, v223, v224, v225, v226, v227, v228, v229, v230, v231, v232, v233, v234, v235, v236, v237, v238, v239, v240, v241, v242, v243, v244, v245, v246, v247, v248, v249, v250, v251, v252, v253, v254, v255, v256, v257, v258, v259, v260, v261, v262, v263, v264, v265, v266, v267, v268, v269, v270, v271, v272, v273, v274, v275, v276, v277, v278, v279, v280, v281, v282, v283, v284, v285, v286, v287, v288, v289, v290, v291, v292, v293, v294, v295, v296, v297, v298, v299, v300, v301, v302, v303, v304, v305, v306, v307, v308, v309, v310, v311, v312, v313, v314, v315, v316, v317, v318, v319, v320, v321, v322, v323], []⟩ w') :
    Code.wp Yba.prog (fromR 31 (Yba.f4.body.getD .skip)) (Exit.inBlock 2 (Exit.then K (bodyPost Yba.prog Yba.f4 R))) ⟨#[.int .u8 a, .int .u8 c, .slice ao n cap, undef, undef, undef, .bool false, .int .i64 m, P2 rb 0, .int .i64 L, .int .i64 (pf : Int), .int .i64 tot, qv, .map (some mo), .int .i64 pk, .int .i64 i, P2 sb 0, P2 kb 0, P2 mb 0, v19, v20, v21, v22, v23, v24, v25, v26, v27, v28, v29, v30, v31, v32, v33, v34, v35, v36, v37, v38, v39, v40, v41, v42, v43, v44, v45, v46, v47, v48, v49, v50, v51, v52, v53, v54, v55, v56, v57, v58, v59, v60, v61, v62, v63, v64, v65, v66, v67, v68, v69, v70, v71, v72, v73, v74, v75, v76, v77, v78, v79, v80, v81, v82, v83, v84, v85, v86, v87, v88, v89, v90, v91, v92, v93, v94, v95, v96, v97, v98, v99, v100, v101, v102, v103, v104, v105, v106, v107, v108, v109, v110, v111, v112, v113, v114, v115, v116, v117, v118, v119, v120, v121, v122, v123, v124, v125, v126, v127, v128, v129, v130, v131, v132, v133, v134, v135, v136, v137, v138, v139, v140, v141, v142, v143, v144, v145, v146, v147, v148, v149, v150, v151, v152, v153, v154, v155, v156, v157, v158, v159, v160, v161, v162, v163, v164, v165, v166, v167, v168, v169, v170, v171, v172, v173, v174, v175, v176, v177, v178, v179, v180, v181, v182, v183, v184, v185, v186, v187, v188, v189, v190, v191, v192, v193, v194, v195, v196, v197, v198, v199, v200, v201, v202, v203, v204, v205, v206, v207, v208, v209, v210, v211, v212, v213, v214, v215, v216, v217, v218, v219, v220, v221, v222, v223, v224, v225, v226, v227, v228, v229, v230, v231, v232, v233, v234, v235, v236, v237, v238, v239, v240, v241, v242, v243, v244, v245, v246, v247, v248, v249, v250, v251, v252, v253, v254, v255, v256, v257, v258, v259, v260, v261, v262, v263, v264, v265, v266, v267, v268, v269, v270, v271, v272, v273, v274, v275, v276, v277, v278, v279, v280, v281, v282, v283, v284, v285, v286, v287, v288, v289, v290, v291, v292, v293, v294, v295, v296, v297, v298, v299, v300, v301, v302, v303, v304, v305, v306, v307, v308, v309, v310, v311, v312, v313, v314, v315, v316, v317, v318, v319, v320, v321, v322, v323], []⟩ wc := by
  dsimp only at h33 ⊢
  conv => arg 2; whnf
  unfold P2
  have hlim : 1 ≤ lim m ∧ lim m ≤ 64 := by unfold lim; split <;> omega
  have y7 := cell_of_heap hP.hs 7 (.int .u8 x.re) rfl
  have HX : Hid x.Ok := hx
  have HI : Hid (Inv w0 wr rb pm am mo qb m pk al ml fl qv) := hI
  have HP : Hid (Pd wr wc rb pm am m pk al fl sb kb mb x) := hP
  have HK : Hid _ := h33
  clear hx hI hP h33
  go_wp2_with fail
  refine (reason_any wc x.re HX.out.r0 HX.out.r1).mono ?_
  rintro e wb ⟨rfl, rs, rfl⟩
  dsimp only
  go_wp2_with fail
  have hfl : fl.length < 100000 := by have h1 := HI.out.le; have h2 := hlim; omega
  refine (abandon_both w0 wr _ rb pm am mo qb m pk al ml fl qv _ sb kb mb x rs HI.out.core HP.out HX.out hsb hkb hmb hms hmk hfl (by omega)).mono ?_
  rintro e w1 ⟨al6, nb, rfl, hk6, hg6, hA⟩
  clear y7
  dsimp only
  apply_assumption
  refine wpList_plain rfl fun Kn hKn => ?_
  refine wp_of_run (v := .pointer (some ⟨w1.heap.size, 0, none⟩)) (w' := w1.alloc (.cells dz 88)) (by kernel_rfl) ?_
  refine hKn _ _ ?_
  clear hKn Kn
  simp only [Act.put, List.setIfInBounds_toArray, List.set_cons_zero, List.set_cons_succ]
  refine wpList_store_row rfl 88 (.tmp 22) (.tmp 144) rfl w1.heap.size (dg x.key (ver x.st) rs x.fr) (by rfl) (by rfl) 88 dz (heap_alloc_new _ _) (by rw [info88, dg_size]) (by rw [dz_size, dg_size]) (dg_one ..) ?_
  rw [setRow_new]
  refine wpList_nil ?_
  simp only [Act.put]
  have hA2 := hA.same ((Same.refl w1).alloc (.cells (dg x.key (ver x.st) rs x.fr) 88))
  have hd := heap_alloc_new w1 (.cells (dg x.key (ver x.st) rs x.fr) 88)
  have hqd : qb ≠ w1.heap.size := by have := hA.core.q6; omega
  unfold Exit.then
  dsimp only
  apply_assumption
  exact HK.out _ _ _ _ _ _ _ _ _ _ _ _ _ _ _ _ _ _ _ _ _ _ _ _ _ _ _ _ _ _ _ _ _ _ _ _ _ _ _ _ _ _ _ _ _ _ _ _ _ _ _ _ _ _ _ _ _ _ _ _ _ _ _ _ _ _ _ _ _ _ _ _ _ _ _ _ _ _ _ _ _ _ _ _ _ _ _ _ _ _ _ _ _ _ _ _ _ _ _ _ _ _ _ _ _ _ _ _ _ _ _ _ _ _ _ _ _ _ _ _ _ _ _ _ _ _ _ _ _ _ _ _ _ _ _ _ _ _ _ _ _ _ _ _ _ _ _ _ _ _ _ _ _ _ _ _ _ _ _ _ _ _ _ _ _ _ _ _ _ _ _ _ _ _ _ _ _ _ _ _ _ _ _ _ _ _ _ _ _ _ _ _ _ _ _ _ _ _ _ _ _ _ _ _ _ _ _ _ _ _ _ _ _ _ _ _ _ _ _ _ _ _ _ _ _ _ _ _ _ _ _ _ _ _ _ _ _ _ _ _ _ _ _ _ _ _ _ _ _ _ _ _ _ _ _ _ _ _ _ _ _ _ _ _ _ _ _ _ _ _ _ _ _ _ _ _ _ _ _ _ _ _ _ _ _ _ _ _ _ _ _ _ _ _ _ _ _ _ _ _ _ _ _ _ rs _ nb al6 hk6 hg6 hA2 hqd hd
end Go.Proofs.Ybulkakzc
