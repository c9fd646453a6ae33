/-
  THE LAW OF ABANDONING (seat b1835a): one round, the looks.
-/
import Derived.Test.YbulkakzcBody2
import Derived.BigQuiet
namespace Go.Proofs.Ybulkakzc
open Go.RowKit
set_option linter.unusedSimpArgs false

set_option maxRecDepth 100000 in
set_option maxHeartbeats 8000000 in
theorem body4 (w0 w : World) (a c : Int) (ao : Option Addr) (n cap : Nat) (m L tot : Int) (pf : Nat) (rb pm am mo qb' : Nat) (pk' : Int) (al6 ml' : List En) (fl1 : List Fq) (qv' : Value) (i : Nat) (sb kb mb db nb : Nat) (rs : ByteArray) (x : Stp) (K : Act → World → Prop) (R : Ending → World → Prop) (v19 v20 v23 v24 v25 v26 v27 v28 v29 v30 v31 v32 v33 v34 v35 v36 v37 v38 v39 v40 v41 v42 v43 v44 v45 v46 v47 v48 v49 v50 v51 v52 v53 v54 v55 v56 v57 v58 v59 v60 v61 v62 v63 v64 v65 v66 v67 v68 v69 v70 v71 v72 v73 v74 v75 v76 v77 v78 v79 v80 v81 v82 v83 v84 v85 v86 v87 v88 v89 v90 v91 v92 v93 v94 v95 v96 v97 v98 v99 v100 v101 v102 v103 v104 v105 v106 v107 v108 v109 v110 v111 v112 v113 v114 v115 v116 v117 v118 v119 v120 v121 v122 v123 v124 v125 v126 v127 v128 v129 v130 v131 v132 v133 v134 v135 v136 v137 v138 v139 v140 v141 v142 v143 v144 v145 v146 v147 v148 v149 v150 v151 v152 v153 v154 v155 v156 v157 v158 v159 v160 v161 v162 v163 v164 v165 v166 v167 v168 v169 v170 v171 v172 v173 v174 v175 v176 v177 v178 v179 v180 v181 v182 v183 v184 v185 v186 v187 v188 v189 v190 v191 v192 v193 v194 v195 v196 v197 v198 v199 v200 v201 v202 v203 v204 v205 v206 v207 v208 v209 v210 v211 v212 v213 v214 v215 v216 v217 v218 v219 v220 v221 v222 v223 v224 v225 v226 v227 v228 v229 v230 v231 v232 v233 v234 v235 v236 v237 v238 v239 v240 v241 v242 v243 v244 v245 v246 v247 v248 v249 v250 v251 v252 v253 v254 v255 v256 v257 v258 v259 v260 v261 v262 v263 v264 v265 v266 v267 v268 v269 v270 v271 v272 v273 v274 v275 v276 v277 v278 v279 v280 v281 v282 v283 v284 v285 v286 v287 v288 v289 v290 v291 v292 v293 v294 v295 v296 v297 v298 v299 v300 v301 v302 v303 v304 v305 v306 v307 v308 v309 v310 v311 v312 v313 v314 v315 v316 v317 v318 v319 v320 v321 v322 v323 : Value)
    (hI : Inv w0 w rb pm am mo qb' m pk' al6 ml' (fl1 ++ [⟨nb, x.key, 0, 0⟩]) qv') (hg6 : get x.key al6 = some (P2 nb 0)) (hs : w.heap[sb]? = some (.cells (stc x) 99 (0, 0))) (hk : w.heap[kb]? = some (.cells (kc x.key).toArray 60 (0, 0))) (hd : w.heap[db]? = some (.cells (dg x.key (ver x.st) rs x.fr) 88 (0, 0)))
    (hK : ∀ (v16 v17 v18 v19 v20 v21 v22 v23 v24 v25 v26 v27 v28 v29 v30 v31 v32 v33 v34 v35 v36 v37 v38 v39 v40 v41 v42 v43 v44 v45 v46 v47 v48 v49 v50 v51 v52 v53 v54 v55 v56 v57 v58 v59 v60 v61 v62 v63 v64 v65 v66 v67 v68 v69 v70 v71 v72 v73 v74 v75 v76 v77 v78 v79 v80 v81 v82 v83 v84 v85 v86 v87 v88 v89 v90 v91 v92 v93 v94 v95 v96 v97 v98 v99 v100 v101 v102 v103 v104 v105 v106 v107 v108 v109 v110 v111 v112 v113 v114 v115 v116 v117 v118 v119 v120 v121 v122 v123 v124 v125 v126 v127 v128 v129 v130 v131 v132 v133 v134 v135 v136 v137 v138 v139 v140 v141 v142 v143 v144 v145 v146 v147 v148 v149 v150 v151 v152 v153 v154 v155 v156 v157 v158 v159 v160 v161 v162 v163 v164 v165 v166 v167 v168 v169 v170 v171 v172 v173 v174 v175 v176 v177 v178 v179 v180 v181 v182 v183 v184 v185 v186 v187 v188 v189 v190 v191 v192 v193 v194 v195 v196 v197 v198 v199 v200 v201 v202 v203 v204 v205 v206 v207 v208 v209 v210 v211 v212 v213 v214 v215 v216 v217 v218 v219 v220 v221 v222 v223 v224 v225 v226 v227 v228 v229 v230 v231 v232 v233 v234 v235 v236 v237 v238 v239 v240 v241 v242 v243 v244 v245 v246 v247 v248 v249 v250 v251 v252 v253 v254 v255 v256 v257 v258 v259 v260 v261 v262 v263 v264 v265 v266 v267 v268 v269 v270 v271 v272 v273 v274 v275 v276 v277 v278 v279 v280 v281 v282 v283 v284 v285 v286 v287 v288 v289 v290 v291 v292 v293 v294 v295 v296 v297 v298 v299 v300 v301 v302 v303 v304 v305 v306 v307 v308 v309 v310 v311 v312 v313 v314 v315 v316 v317 v318 v319 v320 v321 v322 v323 : Value) (w' : World) (qb' : Nat) (pk' : Int) (al' ml' : List En) (fl' : List Fq) (qv' : Value), Inv w0 w' rb pm am mo qb' m pk' al' ml' fl' qv' → K ⟨#[.int .u8 a, .int .u8 c, .slice ao n cap, undef, undef, undef, .bool false, .int .i64 m, P2 rb 0, .int .i64 L, .int .i64 (pf : Int), .int .i64 tot, qv', .map (some mo), .int .i64 pk', .int .i64 i, v16, v17, v18, v19, v20, v21, v22, v23, v24, v25, v26, v27, v28, v29, v30, v31, v32, v33, v34, v35, v36, v37, v38, v39, v40, v41, v42, v43, v44, v45, v46, v47, v48, v49, v50, v51, v52, v53, v54, v55, v56, v57, v58, v59, v60, v61, v62, v63, v64, v65, v66, v67, v68, v69, v70, v71, v72, v73, v74, v75, v76, v77, v78, v79, v80, v81, v82, v83, v84, v85, v86, v87, v88, v89, v90, v91, v92, v93, v94, v95, v96, v97, v98, v99, v100, v101, v102, v103, v104, v105, v106, v107, v108, v109, v110, v111, v112, v113, v114, v115, v116, v117, v118, v119, v120, v121, v122, v123, v124, v125, v126, v127, v128, v129, v130, v131, v132, v133, v134, v135, v136, v137, v138, v139, v140, v141, v142, v143, v144, v145, v146, v147, v148, v149, v150, v151, v152, v153, v154, v155, v156, v157, v158, v159, v160, v161, v162, v163, v164, v165, v166, v167, v168, v169, v170, v171, v172, v173, v174, v175, v176, v177, v178, v179, v180, v181, v182, v183, v184, v185, v186, v187, v188, v189, v190, v191, v192, v193, v194, v195, v196, v197, v198, v199, v200, v201, v202, v203, v204, v205, v206, v207, v208, v209, v210, v211, v212, v213, v214, v215, v216, v217, v218, v219, v220, v221, v222, v223, v224, v225, v226, v227, v228, v229, v230, v231, v232, v233, v234, v235, v236, v237, v238, v239, v240, v241, v242, v243, v244, v245, v246, v247, v248, v249, v250, v251, v252, v253, v254, v255, v256, v257, v258, v259, v260, v261, v262, v263, v264, v265, v266, v267, v268, v269, v270, v271, v272, v273, v274, v275, v276, v277, v278, v279, v280, v281, v282, v283, v284, v285, v286, v287, v288, v289, v290, v291, v292, v293, v294, v295, v296, v297, v298, v299, v300, v301, v302, v303, v304, v305, v306, v307, v308, v309, v310, v311, v312, v313, v314, v315, v316, v317, v318, v319, v320, v321, v322, v323], []⟩ w') :
    Code.wp Yba.prog (fromR 42 (Yba.f4.body.getD .skip)) (Exit.inBlock 2 (Exit.then K (bodyPost Yba.prog Yba.f4 R))) ⟨#[.int .u8 a, .int .u8 c, .slice ao n cap, undef, undef, undef, .bool false, .int .i64 m, P2 rb 0, .int .i64 L, .int .i64 (pf : Int), .int .i64 tot, qv', .map (some mo), .int .i64 pk', .int .i64 i, P2 sb 0, P2 kb 0, P2 mb 0, v19, v20, .string rs, P2 db 0, v23, v24, v25, v26, v27, v28, v29, v30, v31, v32, v33, v34, v35, v36, v37, v38, v39, v40, v41, v42, v43, v44, v45, v46, v47, v48, v49, v50, v51, v52, v53, v54, v55, v56, v57, v58, v59, v60, v61, v62, v63, v64, v65, v66, v67, v68, v69, v70, v71, v72, v73, v74, v75, v76, v77, v78, v79, v80, v81, v82, v83, v84, v85, v86, v87, v88, v89, v90, v91, v92, v93, v94, v95, v96, v97, v98, v99, v100, v101, v102, v103, v104, v105, v106, v107, v108, v109, v110, v111, v112, v113, v114, v115, v116, v117, v118, v119, v120, v121, v122, v123, v124, v125, v126, v127, v128, v129, v130, v131, v132, v133, v134, v135, v136, v137, v138, v139, v140, v141, v142, v143, v144, v145, v146, v147, v148, v149, v150, v151, v152, v153, v154, v155, v156, v157, v158, v159, v160, v161, v162, v163, v164, v165, v166, v167, v168, v169, v170, v171, v172, v173, v174, v175, v176, v177, v178, v179, v180, v181, v182, v183, v184, v185, v186, v187, v188, v189, v190, v191, v192, v193, v194, v195, v196, v197, v198, v199, v200, v201, v202, v203, v204, v205, v206, v207, v208, v209, v210, v211, v212, v213, v214, v215, v216, v217, v218, v219, v220, v221, v222, v223, v224, v225, v226, v227, v228, v229, v230, v231, v232, v233, v234, v235, v236, v237, v238, v239, v240, v241, v242, v243, v244, v245, v246, v247, v248, v249, v250, v251, v252, v253, v254, v255, v256, v257, v258, v259, v260, v261, v262, v263, v264, v265, v266, v267, v268, v269, v270, v271, v272, v273, v274, v275, v276, v277, v278, v279, v280, v281, v282, v283, v284, v285, v286, v287, v288, v289, v290, v291, v292, v293, v294, v295, v296, v297, v298, v299, v300, v301, v302, v303, v304, v305, v306, v307, v308, v309, v310, v311, v312, v313, v314, v315, v316, v317, v318, v319, v320, v321, v322, v323], []⟩ w := by
  dsimp only at hK ⊢
  conv => arg 2; whnf
  unfold P2
  have d0 := cell_of_heap hd 0 (.int .u64 0) rfl
  have d1 := cell_of_heap hd 1 (.int .u64 0) rfl
  have d2 := cell_of_heap hd 2 (.pointer none) rfl
  have d3 := cell_of_heap hd 3 (.int .u16 x.s) rfl
  have d4 := cell_of_heap hd 4 (.int .u64 0) rfl
  have d5 := cell_of_heap hd 5 (.int .u64 0) rfl
  have d6 := cell_of_heap hd 6 (.pointer none) rfl
  have d7 := cell_of_heap hd 7 (.int .u16 x.d) rfl
  have d10 := cell_of_heap hd 10 (.slice none 0 0) rfl
  have d11 := cell_of_heap hd 11 (.slice none 0 0) rfl
  have d12 := cell_of_heap hd 12 (.string ⟨#[]⟩) rfl
  have d13 := cell_of_heap hd 13 (.string (ver x.st)) rfl
  have d14 := cell_of_heap hd 14 (.string rs) rfl
  have d15 := cell_of_heap hd 15 (.slice none 0 0) rfl
  have d33 := cell_of_heap hd 33 (.int .i64 x.fr) rfl
  have d34 := cell_of_heap hd 34 (.int .u32 x.id) rfl
  have z0 := cell_of_heap hk 0 (.int .u64 0) rfl
  have z1 := cell_of_heap hk 1 (.int .u64 0) rfl
  have z2 := cell_of_heap hk 2 (.pointer none) rfl
  have z3 := cell_of_heap hk 3 (.int .u16 x.s) rfl
  have z4 := cell_of_heap hk 4 (.int .u64 0) rfl
  have z5 := cell_of_heap hk 5 (.int .u64 0) rfl
  have z6 := cell_of_heap hk 6 (.pointer none) rfl
  have z7 := cell_of_heap hk 7 (.int .u16 x.d) rfl
  have z8 := cell_of_heap hk 8 (.int .u32 x.id) rfl
  have y0 := cell_of_heap hs 0 (.int .u32 x.id) rfl
  have y3 := cell_of_heap hs 3 (.bool x.st) rfl
  have y4 := cell_of_heap hs 4 (.int .i64 x.fr) rfl
  have hn58 : ∀ (w : World) (p : Int), (binOp .neq 58 (.agg #[.int .u64 0, .int .u64 0, .pointer none, .int .u16 p]) (.agg #[.int .u64 0, .int .u64 0, .pointer none, .int .u16 p])).run Yba.prog w = .ok (.bool false) w := fun w p => by
    have := neq58 w p p
    simp only [beq_self_eq_true, Bool.not_true, apv, apc] at this
    exact this
  have HK : Hid _ := hK
  have HI : Hid (Inv w0 w rb pm am mo qb' m pk' al6 ml' (fl1 ++ [⟨nb, x.key, 0, 0⟩]) qv') := hI
  have HG : Hid (get x.key al6 = some (P2 nb 0)) := hg6
  clear hK hI hg6 hs hk hd
  go_upto_if 227 with fail
  clear d0 d1 d2 d3 d4 d5 d6 d7 d14 d33 d34 y0 y4 hn58
  go_cut [23] from 194 to 227 (fun v wx => v = .string (ver x.st) ∧ wx = w)
  case first =>
    cases hst : x.st
    · go_wp2
      go_meet
      case rel => exact ⟨by rw [hst]; rfl, rfl⟩
    · go_wp2
      go_meet
      case rel => exact ⟨by rw [hst]; rfl, rfl⟩
  case rest =>
    obtain ⟨hv23, hwc⟩ := hcut
    subst hv23
    rw [hwc]
    clear hwc y3
    obtain ⟨C, hR⟩ := HI.out.core.rs
    have c17 := (hR.row.cell (i := 17) (by omega)).trans (congrArg some hR.rc.c17)
    have c25 := (hR.row.cell (i := 25) (by omega)).trans (congrArg some hR.rc.c25)
    obtain ⟨ca, ham⟩ := hR.amap
    have hlk := fun N => lookup_run (w := w) 43 37 Yba.underlying43 (.pointer none) (fun w => by kernel_rfl) ham x.key false N
    have hg := HG.out
    simp only [hg, Option.getD_some, Bool.false_eq_true, if_false] at hlk
    simp only [kv, kc, Stp.key] at hlk
    unfold P2 at hlk
    clear hg ham
    have HR : Hid (RS w rb pm am C 0 m 0 0 0 pk' [] al6 [] (fgs (fl1 ++ [⟨nb, x.key, 0, 0⟩]))) := hR
    clear hR
    have hs23 : ∀ w : World, (binOp .neq 23 (.slice none 0 0) (.slice none 0 0)).run Yba.prog w = .ok (.bool false) w := fun w => by kernel_rfl
    have hs76 : ∀ w : World, (binOp .neq 76 (.slice none 0 0) (.slice none 0 0)).run Yba.prog w = .ok (.bool false) w := fun w => by kernel_rfl
    go_upto_region 49 with fail
    clear hs23 hs76
    go_quiet (fail)
    have hSq := same_drewN w nq
    have hIq : Inv w0 (w.drewN nq) rb pm am mo qb' m pk' al6 ml' (fl1 ++ [⟨nb, x.key, 0, 0⟩]) qv' := ⟨HI.out.core.same hSq, HI.out.keys, HI.out.tr, HI.out.zero, HI.out.le⟩
    have hRq := HR.out.same hSq
    have c22 := (hRq.row.cell (i := 18 + 4) (by omega)).trans (congrArg some hRq.qf.len)
    rw [fgs_length] at c22
    have c19 := hRq.row.cell (i := 18 + 1) (by omega)
    have hring : Ring (w.drewN nq) rb 18 C (fgs (fl1 ++ [⟨nb, x.key, 0, 0⟩])) := by
      rcases hRq.qf with ⟨h1, _⟩ | h1
      · simp [fgs] at h1
      · exact h1
    rw [hring.tl] at c19
    have htl : tlOf rb 18 (fgs (fl1 ++ [⟨nb, x.key, 0, 0⟩])) = P2 nb 0 := by simp [tlOf, fgs]
    rw [htl] at c19
    have hneq := neq37_same (w.drewN nq) nb 0
    have hc25 : (w.drewN nq).cell? ⟨rb, 25, none⟩ = some (.int .i64 pk') := c25
    obtain ⟨ao2, off2, cap2, hv2, _⟩ := HI.out.core.q.came
    rw [List.length_map] at hv2
    have HIq : Hid (Inv w0 (w.drewN nq) rb pm am mo qb' m pk' al6 ml' (fl1 ++ [⟨nb, x.key, 0, 0⟩]) qv') := hIq
    generalize hwq : w.drewN nq = wq at *
    have hn0 : 0 < (fl1 ++ [(⟨nb, x.key, 0, 0⟩ : Fq)]).length := by simp
    clear hwq hIq hRq hring htl hSq hlk c17 c25 d10 d11 d12 d13 d15 z0 z1 z2 z3 z4 z5 z6 z7 z8 HI HR
    subst hv2
    generalize hfl : fl1 ++ [(⟨nb, x.key, 0, 0⟩ : Fq)] = fl at *
    clear hfl
    unfold P2 at hneq c19
    go_wp2_with fail
    refine (back_some wq rb 18 fl.length _ hn0 c22 c19).mono ?_
    rintro e w9 ⟨rfl, rfl⟩
    dsimp only
    go_wp2_with fail
    refine (len_any _ rb 18 _ c22).mono ?_
    rintro e w10 ⟨rfl, rfl⟩
    dsimp only
    go_wp2_with fail
    exact HK.out _ _ _ _ _ _ _ _ _ _ _ _ _ _ _ _ _ _ _ _ _ _ _ _ _ _ _ _ _ _ _ _ _ _ _ _ _ _ _ _ _ _ _ _ _ _ _ _ _ _ _ _ _ _ _ _ _ _ _ _ _ _ _ _ _ _ _ _ _ _ _ _ _ _ _ _ _ _ _ _ _ _ _ _ _ _ _ _ _ _ _ _ _ _ _ _ _ _ _ _ _ _ _ _ _ _ _ _ _ _ _ _ _ _ _ _ _ _ _ _ _ _ _ _ _ _ _ _ _ _ _ _ _ _ _ _ _ _ _ _ _ _ _ _ _ _ _ _ _ _ _ _ _ _ _ _ _ _ _ _ _ _ _ _ _ _ _ _ _ _ _ _ _ _ _ _ _ _ _ _ _ _ _ _ _ _ _ _ _ _ _ _ _ _ _ _ _ _ _ _ _ _ _ _ _ _ _ _ _ _ _ _ _ _ _ _ _ _ _ _ _ _ _ _ _ _ _ _ _ _ _ _ _ _ _ _ _ _ _ _ _ _ _ _ _ _ _ _ _ _ _ _ _ _ _ _ _ _ _ _ _ _ _ _ _ _ _ _ _ _ _ _ _ _ _ _ _ _ _ _ _ _ _ _ _ _ _ _ _ _ _ _ _ _ _ _ _ _ _ _ _ _ _ _ _ _ _ _ _ qb' pk' al6 ml' fl _ HIq.out
end Go.Proofs.Ybulkakzc
