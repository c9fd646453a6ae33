/-
  THE LAW OF EXPIRING (seat b1835a): the lines are looked at.
-/
import Derived.Test.YbulkakzcSeg39
import Derived.BigQuiet
namespace Go.Proofs.Ybulkakzc
open Go.RowKit
set_option linter.unusedSimpArgs false

theorem info88' : ∃ i, Yba.prog.info? 88 = some i ∧ i.size = 35 := by
  have h := info88
  cases hq : Yba.prog.info? 88 with
  | none => rw [hq] at h; simp at h
  | some i => rw [hq] at h; exact ⟨i, rfl, by simpa using h⟩
theorem wpList_load_line {ops : Array Oper} {rest : List Oper} {o : Oper} {a : Act} {w : World} {Q : Exit → Act → World → Prop} (hgd : o.guard = none) (x : Operand) (ho : o.op = .load 88 x)
    (g off : Nat) (hx : a.eval x = .pointer (some ⟨g, off, none⟩)) (d : Dg) (hc : ∀ j u, d.cells[j]? = some u → w.cell? ⟨g, off + j, none⟩ = some u)
    (h : wpList Yba.prog ops Q rest (a.put o.dst (.agg (dg d.k d.ver d.rs d.frag))) w) : wpList Yba.prog ops Q (o :: rest) a w := by
  refine wpList_plain hgd fun K hK => ?_
  obtain ⟨i, hi, hs⟩ := info88'
  have hl := run_loadCells_list (P := Yba.prog) w ⟨g, off, none⟩ d.cells (fun j v hv => by rw [Addr.add_lit]; exact hc j v hv)
  rw [Dg.cells_length] at hl
  have hagg : (isAgg 88).run Yba.prog w = .ok true w := by
    unfold isAgg
    rw [Sem.run_bind, run_underlying Yba.underlying88 w]
    rfl
  have hrun : (loadVar 88 ⟨g, off, none⟩).run Yba.prog w = .ok (.agg (dg d.k d.ver d.rs d.frag)) w := by
    simp [loadVar, Sem.run_bind, hagg, sizeOf, typeInfo, hi, hs, hl]
    rfl
  unfold Oper.wp execOp
  simp only [ho, hx, Instr.loadAt, Instr.sureAddr, Sem.run_bind, Sem.run_pure, Result.andThen_ok, hrun]
  exact hK _ _ h

set_option maxRecDepth 100000 in
set_option maxHeartbeats 8000000 in
theorem seg58 (w0 w' : World) (ts mpb now pre : Int) (fa : Option Addr) (fn fc : Nat) (ma : Option Addr) (mn mc : Nat) (mp tmo : Int) (decb rb tb fb : Nat) (gb np k mbk moff ob : Nat) (ov : Value) (pk : Int) (fl' : List Fq) (M : Nat → Mg) (ms : List Ms) (R : Ending → World → Prop) (v18 v20 v21 v23 v24 v25 v26 v28 v29 v31 v32 v35 v37 v38 v39 v40 v41 v42 v43 v44 v45 v46 v47 v48 v49 v50 v51 v52 v53 v54 v55 v56 v57 v58 v59 v60 v61 v62 v63 v64 v65 v66 v67 v68 v69 v70 v71 v72 v73 v74 v75 v76 v77 v78 v79 v80 v81 v82 v83 v84 v85 v86 v87 v88 v89 v90 v91 v92 v93 v94 v95 v96 v97 v98 v99 v100 v101 v102 v103 v104 v105 v106 v107 v108 v109 v110 v111 v112 v113 v114 v115 v116 v117 v118 v119 v120 v121 v122 v123 v124 v125 v126 v127 v128 v129 v130 v131 v132 v133 v134 v135 v136 v137 v138 v139 v140 v141 v142 v143 v144 v145 v146 v147 v148 v149 v150 v151 v152 v153 v154 v155 v156 v157 v158 v159 v160 v161 v162 v163 v164 v165 v166 v167 v168 v169 v170 v171 v172 v173 v174 v175 v176 v177 v178 v179 v180 v181 v182 v183 v184 v185 v186 v187 v188 v189 v190 v191 v192 v193 v194 v195 v196 v197 v198 v199 v200 v201 v202 v203 v204 v205 v206 v207 v208 v209 v210 v211 v212 v213 v214 v215 v216 v217 v218 v219 v220 v221 v222 v223 v224 v225 v226 v227 v228 v229 v230 v231 v232 v233 v234 v235 v236 v237 v238 v239 v240 v241 v242 v243 v244 v245 v246 v247 v248 v249 v250 v251 v252 v253 v254 v255 v256 v257 v258 v259 v260 v261 v262 v263 v264 v265 v266 v267 v268 v269 v270 v271 v272 v273 v274 v275 v276 v277 v278 v279 v280 v281 v282 v283 v284 v285 v286 v287 v288 v289 v290 v291 v292 v293 v294 v295 v296 v297 v298 v299 v300 v301 v302 v303 v304 v305 v306 v307 v308 v309 v310 v311 v312 v313 v314 v315 v316 v317 v318 v319 v320 v321 v322 v323 v324 v325 v326 v327 v328 v329 v330 v331 v332 v333 v334 v335 v336 v337 v338 v339 v340 v341 v342 v343 v344 v345 v346 v347 v348 v349 v350 v351 v352 v353 v354 v355 v356 v357 v358 v359 v360 v361 v362 v363 v364 v365 v366 v367 v368 v369 v370 v371 v372 v373 v374 v375 v376 v377 v378 v379 v380 v381 v382 v383 v384 v385 v386 v387 v388 v389 v390 v391 v392 v393 v394 v395 v396 v397 v398 v399 v400 v401 v402 v403 v404 v405 v406 v407 v408 v409 v410 v411 v412 v413 v414 v415 v416 v417 v418 v419 v420 v421 v422 v423 v424 v425 v426 v427 v428 v429 v430 v431 v432 v433 : Value)
    (hnp : np ≤ 3) (hk : k ≤ mn) (hml : ms.length = mn) (hmn : mn ≤ 1024) (hS : Same w0 w') (hD : Ds w' ov ob (preL np ++ (ms.take k).map line)) (hM : Imp w0 ma mn mbk moff M) (hmk : ∀ j x, ms[j]? = some x → x.k = mk_ j ∧ x.frag = (M j).f ∧ x.start = (M j).s)
    (h74 : ∀ (v12 v18 v20 v21 v22 v23 v24 v25 v26 v27 v28 v29 v30 v31 v32 v35 v37 v38 v39 v40 v41 v42 v43 v44 v45 v46 v47 v48 v49 v50 v51 v52 v53 v54 v55 v56 v57 v58 v59 v60 v61 v62 v63 v64 v65 v66 v67 v68 v69 v70 v71 v72 v73 v74 v75 v76 v77 v78 v79 v80 v81 v82 v83 v84 v85 v86 v87 v88 v89 v90 v91 v92 v93 v94 v95 v96 v97 v98 v99 v100 v101 v102 v103 v104 v105 v106 v107 v108 v109 v110 v111 v112 v113 v114 v115 v116 v117 v118 v119 v120 v121 v122 v123 v124 v125 v126 v127 v128 v129 v130 v131 v132 v133 v134 v135 v136 v137 v138 v139 v140 v141 v142 v143 v144 v145 v146 v147 v148 v149 v150 v151 v152 v153 v154 v155 v156 v157 v158 v159 v160 v161 v162 v163 v164 v165 v166 v167 v168 v169 v170 v171 v172 v173 v174 v175 v176 v177 v178 v179 v180 v181 v182 v183 v184 v185 v186 v187 v188 v189 v190 v191 v192 v193 v194 v195 v196 v197 v198 v199 v200 v201 v202 v203 v204 v205 v206 v207 v208 v209 v210 v211 v212 v213 v214 v215 v216 v217 v218 v219 v220 v221 v222 v223 v224 v225 v226 v227 v228 v229 v230 v231 v232 v233 v234 v235 v236 v237 v238 v239 v240 v241 v242 v243 v244 v245 v246 v247 v248 v249 v250 v251 v252 v253 v254 v255 v256 v257 v258 v259 v260 v261 v262 v263 v264 v265 v266 v267 v268 v269 v270 v271 v272 v273 v274 v275 v276 v277 v278 v279 v280 v281 v282 v283 v284 v285 v286 v287 v288 v289 v290 v291 v292 v293 v294 v295 v296 v297 v298 v299 v300 v301 v302 v303 v304 v305 v306 v307 v308 v309 v310 v311 v312 v313 v314 v315 v316 v317 v318 v319 v320 v321 v322 v323 v324 v325 v326 v327 v328 v329 v330 v331 v332 v333 v334 v335 v336 v337 v338 v339 v340 v341 v342 v343 v344 v345 v346 v347 v348 v349 v350 v351 v352 v353 v354 v355 v356 v357 v358 v359 v360 v361 v362 v363 v364 v365 v366 v367 v368 v369 v370 v371 v372 v373 v374 v375 v376 v377 v378 v379 v380 v381 v382 v383 v384 v385 v386 v387 v388 v389 v390 v391 v392 v393 v394 v395 v396 v397 v398 v399 v400 v401 v402 v403 v404 v405 v406 v407 v408 v409 v410 v411 v412 v413 v414 v415 v416 v417 v418 v419 v420 v421 v422 v423 v424 v425 v426 v427 v428 v429 v430 v431 v432 v433 : Value) (w2 : World), Same w' w2 → Code.wp Yba.prog (fromR 74 (Yba.f3.body.getD .skip)) (bodyPost Yba.prog Yba.f3 R) ⟨#[.int .i64 ts, .int .u8 mpb, .int .u16 now, .slice fa fn fc, .slice ma mn mc, .int .u8 pre, undef, undef, undef, undef, undef, undef, v12, .int .i64 mp, P2 decb 0, .int .i64 (rto tmo), P2 rb 0, P2 tb 0, v18, .slice (some ⟨fb, 0, none⟩) fn fn, v20, v21, v22, v23, v24, v25, v26, v27, v28, v29, v30, v31, v32, .int .i64 (fl'.length : Int), .int .i64 (k : Int), v35, .int .i64 pk, v37, v38, v39, v40, v41, v42, v43, v44, v45, v46, v47, v48, v49, v50, v51, v52, v53, v54, v55, v56, v57, v58, v59, v60, v61, v62, v63, v64, v65, v66, v67, v68, v69, v70, v71, v72, v73, v74, v75, v76, v77, v78, v79, v80, v81, v82, v83, v84, v85, v86, v87, v88, v89, v90, v91, v92, v93, v94, v95, v96, v97, v98, v99, v100, v101, v102, v103, v104, v105, v106, v107, v108, v109, v110, v111, v112, v113, v114, v115, v116, v117, v118, v119, v120, v121, v122, v123, v124, v125, v126, v127, v128, v129, v130, v131, v132, v133, v134, v135, v136, v137, v138, v139, v140, v141, v142, v143, v144, v145, v146, v147, v148, v149, v150, v151, v152, v153, v154, v155, v156, v157, v158, v159, v160, v161, v162, v163, v164, v165, v166, v167, v168, v169, v170, v171, v172, v173, v174, v175, v176, v177, v178, v179, v180, v181, v182, v183, v184, v185, v186, v187, v188, v189, v190, v191, v192, v193, v194, v195, v196, v197, v198, v199, v200, v201, v202, v203, v204, v205, v206, v207, v208, v209, v210, v211, v212, v213, v214, v215, v216, v217, v218, v219, v220, v221, v222, v223, v224, v225, v226, v227, v228, v229, v230, v231, v232, v233, v234, v235, v236, v237, v238, v239, v240, v241, v242, v243, v244, v245, v246, v247, v248, v249, v250, v251, v252, v253, v254, v255, v256, v257, v258, v259, v260, v261, v262, v263, v264, v265, v266, v267, v268, v269, v270, v271, v272, v273, v274, v275, v276, v277, v278, v279, v280, v281, v282, v283, v284, v285, v286, v287, v288, v289, v290, v291, v292, v293, v294, v295, v296, v297, v298, v299, v300, v301, v302, v303, v304, v305, v306, v307, v308, v309, v310, v311, v312, v313, v314, v315, v316, v317, v318, v319, v320, v321, v322, v323, v324, v325, v326, v327, v328, v329, v330, v331, v332, v333, v334, v335, v336, v337, v338, v339, v340, v341, v342, v343, v344, v345, v346, v347, v348, v349, v350, v351, v352, v353, v354, v355, v356, v357, v358, v359, v360, v361, v362, v363, v364, v365, v366, v367, v368, v369, v370, v371, v372, v373, v374, v375, v376, v377, v378, v379, v380, v381, v382, v383, v384, v385, v386, v387, v388, v389, v390, v391, v392, v393, v394, v395, v396, v397, v398, v399, v400, v401, v402, v403, v404, v405, v406, v407, v408, v409, v410, v411, v412, v413, v414, v415, v416, v417, v418, v419, v420, v421, v422, v423, v424, v425, v426, v427, v428, v429, v430, v431, v432, v433], []⟩ w2) :
    Code.wp Yba.prog (fromR 58 (Yba.f3.body.getD .skip)) (bodyPost Yba.prog Yba.f3 R) ⟨#[.int .i64 ts, .int .u8 mpb, .int .u16 now, .slice fa fn fc, .slice ma mn mc, .int .u8 pre, undef, undef, undef, undef, undef, undef, .bool false, .int .i64 mp, P2 decb 0, .int .i64 (rto tmo), P2 rb 0, P2 tb 0, v18, .slice (some ⟨fb, 0, none⟩) fn fn, v20, v21, .slice (some ⟨gb, 0, none⟩) mn mn, v23, v24, v25, v26, .int .i64 (np : Int), v28, v29, ov, v31, v32, .int .i64 (fl'.length : Int), .int .i64 (k : Int), v35, .int .i64 pk, v37, v38, v39, v40, v41, v42, v43, v44, v45, v46, v47, v48, v49, v50, v51, v52, v53, v54, v55, v56, v57, v58, v59, v60, v61, v62, v63, v64, v65, v66, v67, v68, v69, v70, v71, v72, v73, v74, v75, v76, v77, v78, v79, v80, v81, v82, v83, v84, v85, v86, v87, v88, v89, v90, v91, v92, v93, v94, v95, v96, v97, v98, v99, v100, v101, v102, v103, v104, v105, v106, v107, v108, v109, v110, v111, v112, v113, v114, v115, v116, v117, v118, v119, v120, v121, v122, v123, v124, v125, v126, v127, v128, v129, v130, v131, v132, v133, v134, v135, v136, v137, v138, v139, v140, v141, v142, v143, v144, v145, v146, v147, v148, v149, v150, v151, v152, v153, v154, v155, v156, v157, v158, v159, v160, v161, v162, v163, v164, v165, v166, v167, v168, v169, v170, v171, v172, v173, v174, v175, v176, v177, v178, v179, v180, v181, v182, v183, v184, v185, v186, v187, v188, v189, v190, v191, v192, v193, v194, v195, v196, v197, v198, v199, v200, v201, v202, v203, v204, v205, v206, v207, v208, v209, v210, v211, v212, v213, v214, v215, v216, v217, v218, v219, v220, v221, v222, v223, v224, v225, v226, v227, v228, v229, v230, v231, v232, v233, v234, v235, v236, v237, v238, v239, v240, v241, v242, v243, v244, v245, v246, v247, v248, v249, v250, v251, v252, v253, v254, v255, v256, v257, v258, v259, v260, v261, v262, v263, v264, v265, v266, v267, v268, v269, v270, v271, v272, v273, v274, v275, v276, v277, v278, v279, v280, v281, v282, v283, v284, v285, v286, v287, v288, v289, v290, v291, v292, v293, v294, v295, v296, v297, v298, v299, v300, v301, v302, v303, v304, v305, v306, v307, v308, v309, v310, v311, v312, v313, v314, v315, v316, v317, v318, v319, v320, v321, v322, v323, v324, v325, v326, v327, v328, v329, v330, v331, v332, v333, v334, v335, v336, v337, v338, v339, v340, v341, v342, v343, v344, v345, v346, v347, v348, v349, v350, v351, v352, v353, v354, v355, v356, v357, v358, v359, v360, v361, v362, v363, v364, v365, v366, v367, v368, v369, v370, v371, v372, v373, v374, v375, v376, v377, v378, v379, v380, v381, v382, v383, v384, v385, v386, v387, v388, v389, v390, v391, v392, v393, v394, v395, v396, v397, v398, v399, v400, v401, v402, v403, v404, v405, v406, v407, v408, v409, v410, v411, v412, v413, v414, v415, v416, v417, v418, v419, v420, v421, v422, v423, v424, v425, v426, v427, v428, v429, v430, v431, v432, v433], []⟩ w' := by
  dsimp only at h74 ⊢
  conv => arg 2; whnf
  unfold P2
  have HK : Hid _ := h74
  have HS : Hid _ := hS
  have HM : Hid _ := hM
  have HMK : Hid _ := hmk
  obtain ⟨oao, ooff, ocap, hov, hom, hoc, holt⟩ := hD.came
  have hol : (preL np ++ (ms.take k).map line).length = np + k := by simp [preL_length]; omega
  rw [hol] at hov
  have hole : np + k ≤ ocap := by have := hoc.le; rw [hol] at this; exact this
  have HOC : Hid _ := hoc
  have HOL : Hid _ := holt
  subst hov
  clear h74 hS hM hmk hD hoc holt hol
  have hw0 : IntKind.i64.wrap ((np : Int) + (k : Int)) = (np : Int) + (k : Int) := by rw [IntKind.wrap_i64]; omega
  have hnk : ((np + k : Nat) : Int) = (np : Int) + (k : Int) := by simp
  go_upto_region 60 with fail
  clear hw0 hnk
  go_wp2_with fail
  go_loopg [38] np (fun g t wr => ∃ j : Nat, j ≤ np ∧ g = np - j ∧ t = .int .i64 j ∧ wr = w')
  case atStart => exact ⟨0, Nat.zero_le _, rfl, rfl, rfl⟩
  case round =>
    obtain ⟨j, hj, hg, rfl, hwr⟩ := hrel
    rw [hwr]
    clear hwr
    by_cases hjn : j < np
    · have hat := Ds.at HOC.out j (preD j) (by rw [List.getElem?_append_left (by rw [preL_length]; exact hjn)]; simp [preL, hjn])
      have c34 := hat 34 (.int .u32 (7777 + (j : Int))) rfl
      have c13 := hat 13 (.string ⟨#[]⟩) rfl
      have hao := HOC.out.addr (by omega)
      subst hao
      clear hat
      have hw1 : IntKind.i64.wrap (7777 + (j : Int)) = 7777 + (j : Int) := by rw [IntKind.wrap_i64]; omega
      have hw2 : IntKind.u32.wrap (7777 + (j : Int)) = 7777 + (j : Int) := by rw [IntKind.wrap_u32]; omega
      have hw3 : IntKind.i64.wrap ((j : Int) + 1) = (j : Int) + 1 := by rw [IntKind.wrap_i64]; omega
      go_wp2
      go_roundg (np - (j + 1))
      case measure => omega
      case rel => exact ⟨j + 1, by omega, rfl, by simp, rfl⟩
    · have hje : j = np := by omega
      subst hje
      go_wp2_with fail
      go_loopg [39] k (fun g t wr => ∃ i : Nat, i ≤ k ∧ g = k - i ∧ t = .int .i64 i ∧ Same w' wr)
      case atStart => exact ⟨0, Nat.zero_le _, rfl, rfl, Same.refl _⟩
      case round =>
        obtain ⟨i, hi, hg2, rfl, hSr⟩ := hrel
        have HSR : Hid _ := hSr
        clear hSr
        by_cases hik : i < k
        · have hkm : i < ms.length := by omega
          have hx : ms[i]? = some ms[i] := List.getElem?_eq_getElem hkm
          obtain ⟨x1, x2, x3⟩ := HMK.out i _ hx
          have hln : (preL j ++ (ms.take k).map line)[j + i]? = some ⟨mk_ i, ver (M i).s, rsT, (M i).f⟩ := by
            rw [List.getElem?_append_right (by rw [preL_length]; omega), preL_length, Nat.add_sub_cancel_left, List.getElem?_map, List.getElem?_take, if_pos hik, hx]
            simp only [Option.map_some, line, x1, x2, x3]
          obtain ⟨q, hq⟩ : ∃ q, q = j + i := ⟨_, rfl⟩
          rw [← hq] at hln
          have hat := Ds.at HOC.out q _ hln
          have hblt : ob < w'.heap.size := HOL.out (by omega)
          have hat' : ∀ t u, (⟨mk_ i, ver (M i).s, rsT, (M i).f⟩ : Dg).cells[t]? = some u → wr.cell? ⟨ob, ooff + q * 35 + t, none⟩ = some u := fun t u hu => (World.cell?_of_block (a := ⟨ob, ooff + q * 35 + t, none⟩) (HSR.out.block ob hblt)).trans (hat t u hu)
          have HAT : Hid _ := hat'
          have hao := HOC.out.addr (by omega)
          subst hao
          have hma := HM.out.addr (by omega)
          subst hma
          have hml' := HM.out.lt (by omega)
          obtain ⟨q0, q1, q2, q3⟩ := (HM.out.at_ i (by omega)).of_block ((HSR.out.block mbk (Nat.lt_of_lt_of_le hml' HS.out.size)).trans (HS.out.block mbk hml'))
          have hok := HM.out.ok i (by omega)
          have hf0 := hok.f0
          have hf1 := hok.f1
          have hw1 : IntKind.i64.wrap ((j : Int) + (i : Int)) = (q : Int) := by rw [IntKind.wrap_i64]; omega
          have hji : (j : Int) + (i : Int) = (q : Int) := by omega
          have hw1' : IntKind.i64.wrap (q : Int) = (q : Int) := by rw [IntKind.wrap_i64]; omega
          have hjio : q < j + k := by omega
          have hjio' : (q : Int) < (j : Int) + (k : Int) := by omega
          have HQ : Hid (q = j + i) := hq
          clear hq
          clear hat hat' hln hx x1 x2 x3 hkm q0 q1 hok
          go_upto_region 68 with fail
          refine wp_region_lit ?_
          refine wpList_plain rfl fun Kn hKn => ?_
          go_simp
          refine hKn _ _ ?_
          clear hKn Kn
          refine wpList_plain rfl fun Kn hKn => ?_
          go_simp
          refine hKn _ _ ?_
          clear hKn Kn
          refine wpList_plain rfl fun Kn hKn => ?_
          go_simp
          refine hKn _ _ ?_
          clear hKn Kn
          refine wpList_plain rfl fun Kn hKn => ?_
          go_simp
          refine hKn _ _ ?_
          clear hKn Kn
          refine wpList_plain rfl fun Kn hKn => ?_
          go_simp
          refine hKn _ _ ?_
          clear hKn Kn
          refine wpList_load_line rfl (.tmp 295) rfl ob (ooff + q * 35) (by rfl) ⟨mk_ i, ver (M i).s, rsT, (M i).f⟩ HAT.out ?_
          simp only [Act.put, List.setIfInBounds_toArray, List.set_cons_zero, List.set_cons_succ]
          refine wpList_plain rfl fun Kn hKn => ?_
          refine wp_of_run (v := .pointer (some ⟨wr.heap.size, 0, none⟩)) (w' := wr.alloc (.cells dz 88)) (by kernel_rfl) ?_
          refine hKn _ _ ?_
          clear hKn Kn
          simp only [Act.put, List.setIfInBounds_toArray, List.set_cons_zero, List.set_cons_succ]
          refine wpList_store_row rfl 88 (.tmp 40) (.tmp 296) rfl wr.heap.size (dg (mk_ i) (ver (M i).s) rsT (M i).f) (by rfl) (by rfl) 88 dz (heap_alloc_new _ _) (by rw [info88, dg_size]) (by rw [dz_size, dg_size]) (dg_one ..) ?_
          rw [setRow_new]
          refine wpList_nil ?_
          simp only [Act.put]
          have hd := heap_alloc_new wr (.cells (dg (mk_ i) (ver (M i).s) rsT (M i).f) 88)
          have hS2 := HSR.out.alloc (.cells (dg (mk_ i) (ver (M i).s) rsT (M i).f) 88)
          have hq' := fun t u (h : wr.cell? ⟨mbk, t, none⟩ = some u) => (World.cell?_of_block (a := ⟨mbk, t, none⟩) (Below.heap_alloc wr (.cells (dg (mk_ i) (ver (M i).s) rsT (M i).f) 88) mbk (Nat.lt_of_lt_of_le (Nat.lt_of_lt_of_le hml' HS.out.size) HSR.out.size))).trans h
          replace q2 := hq' _ _ q2
          replace q3 := hq' _ _ q3
          obtain ⟨db, hdb⟩ : ∃ db, db = wr.heap.size := ⟨_, rfl⟩
          rw [← hdb] at hd ⊢
          generalize hw2 : wr.alloc (.cells (dg (mk_ i) (ver (M i).s) rsT (M i).f) 88) = w2 at hd hS2 q2 q3 ⊢
          clear hw2 hdb hq' HAT hw1 hji hw1' hjio hjio' HSR
          have HS2 : Hid _ := hS2
          clear hS2
          have d10 := cell_of_heap hd 10 (.slice none 0 0) rfl
          have d11 := cell_of_heap hd 11 (.slice none 0 0) rfl
          have d13 := cell_of_heap hd 13 (.string (ver (M i).s)) rfl
          have d14 := cell_of_heap hd 14 (.string ⟨#[114, 101, 97, 115, 115, 101, 109, 98, 108, 121, 45, 116, 105, 109, 101, 111, 117, 116]⟩) rfl
          have d33 := cell_of_heap hd 33 (.int .i64 (M i).f) rfl
          have d34 := cell_of_heap hd 34 (.int .u32 (i : Int)) rfl
          clear hd
          go_upto_if 301 with fail
          go_cut [41] from 286 to 301 (fun v wx => v = .string (ver (M i).s) ∧ wx = w2)
          case first =>
            cases hst : (M i).s
            · go_wp2
              go_meet
              case rel => exact ⟨by rw [hst]; rfl, rfl⟩
            · go_wp2
              go_meet
              case rel => exact ⟨by rw [hst]; rfl, rfl⟩
          case rest =>
            obtain ⟨hv41, hwc⟩ := hcut
            subst hv41
            rw [hwc]
            clear hwc
            have hw5 : IntKind.i64.wrap (M i).f = (M i).f := by rw [IntKind.wrap_i64]; omega
            have hw6 : IntKind.u32.wrap (i : Int) = (i : Int) := by rw [IntKind.wrap_u32]; omega
            have hw7 : IntKind.i64.wrap ((i : Int) + 1) = (i : Int) + 1 := by rw [IntKind.wrap_i64]; omega
            have hs23 : ∀ w : World, (binOp .neq 23 (.slice none 0 0) (.slice none 0 0)).run Yba.prog w = .ok (.bool false) w := fun w => by kernel_rfl
            have him : (i : Int) < (mn : Int) := by omega
            have himn : i < mn := by omega
            go_upto_region 72 with fail
            go_quiet (fail)
            clear hs23 d10 d11 d13 d14 d33 d34 q2 q3
            go_wp2
            go_roundg (k - (i + 1))
            case measure => omega
            case rel => exact ⟨i + 1, by omega, rfl, by simp, HS2.out.trans (same_drewN w2 nq)⟩
        · have hie : i = k := by omega
          subst hie
          go_upto_if 288 with fail
          refine wp_cond_false (by rfl) (wp_exit ?_)
          simp only [Exit.then, Exit.inBlock, if_true]
          apply_assumption
          exact HK.out _ _ _ _ _ _ _ _ _ _ _ _ _ _ _ _ _ _ _ _ _ _ _ _ _ _ _ _ _ _ _ _ _ _ _ _ _ _ _ _ _ _ _ _ _ _ _ _ _ _ _ _ _ _ _ _ _ _ _ _ _ _ _ _ _ _ _ _ _ _ _ _ _ _ _ _ _ _ _ _ _ _ _ _ _ _ _ _ _ _ _ _ _ _ _ _ _ _ _ _ _ _ _ _ _ _ _ _ _ _ _ _ _ _ _ _ _ _ _ _ _ _ _ _ _ _ _ _ _ _ _ _ _ _ _ _ _ _ _ _ _ _ _ _ _ _ _ _ _ _ _ _ _ _ _ _ _ _ _ _ _ _ _ _ _ _ _ _ _ _ _ _ _ _ _ _ _ _ _ _ _ _ _ _ _ _ _ _ _ _ _ _ _ _ _ _ _ _ _ _ _ _ _ _ _ _ _ _ _ _ _ _ _ _ _ _ _ _ _ _ _ _ _ _ _ _ _ _ _ _ _ _ _ _ _ _ _ _ _ _ _ _ _ _ _ _ _ _ _ _ _ _ _ _ _ _ _ _ _ _ _ _ _ _ _ _ _ _ _ _ _ _ _ _ _ _ _ _ _ _ _ _ _ _ _ _ _ _ _ _ _ _ _ _ _ _ _ _ _ _ _ _ _ _ _ _ _ _ _ _ _ _ _ _ _ _ _ _ _ _ _ _ _ _ _ _ _ _ _ _ _ _ _ _ _ _ _ _ _ _ _ _ _ _ _ _ _ _ _ _ _ _ _ _ _ _ _ _ _ _ _ _ _ _ _ _ _ _ _ _ _ _ _ _ _ _ _ _ _ _ _ _ _ _ _ _ _ _ _ _ _ _ _ _ _ _ _ _ _ _ _ _ _ _ _ _ _ _ _ _ _ _ _ _ HSR.out
end Go.Proofs.Ybulkakzc
