/-
  THE LAW OF EXPIRING (seat b1835a): the peak is counted.
-/
import Derived.Test.YbulkakzcSeg39
import Derived.BigQuiet
namespace Go.Proofs.Ybulkakzc
open Go.RowKit
set_option linter.unusedSimpArgs false

theorem ev_bound {L a : Int} (hL : 1 ≤ L) (ha : 0 ≤ a) (p : Int) : ∀ n : Nat, 0 ≤ (ev L n (a, p)).1 ∧ (ev L n (a, p)).1 ≤ a + n
  | 0 => ⟨ha, by simp [ev]⟩
  | n + 1 => by
    have h := ev_bound hL ha p n
    simp only [ev, evs]
    split <;> omega

set_option maxRecDepth 100000 in
set_option maxHeartbeats 8000000 in
theorem seg48 (w' : World) (ts mpb now pre : Int) (fa : Option Addr) (fn fc : Nat) (ma : Option Addr) (mn mc : Nat) (mp tmo : Int) (decb rb tb fb : Nat) (gb np k1 k : Nat) (ov : Value) (pk : Int) (fl' : List Fq) (R : Ending → World → Prop) (v18 v20 v21 v23 v24 v25 v26 v28 v29 v31 v32 v35 v36 v37 v38 v39 v40 v41 v42 v43 v44 v45 v46 v47 v48 v49 v50 v51 v52 v53 v54 v55 v56 v57 v58 v59 v60 v61 v62 v63 v64 v65 v66 v67 v68 v69 v70 v71 v72 v73 v74 v75 v76 v77 v78 v79 v80 v81 v82 v83 v84 v85 v86 v87 v88 v89 v90 v91 v92 v93 v94 v95 v96 v97 v98 v99 v100 v101 v102 v103 v104 v105 v106 v107 v108 v109 v110 v111 v112 v113 v114 v115 v116 v117 v118 v119 v120 v121 v122 v123 v124 v125 v126 v127 v128 v129 v130 v131 v132 v133 v134 v135 v136 v137 v138 v139 v140 v141 v142 v143 v144 v145 v146 v147 v148 v149 v150 v151 v152 v153 v154 v155 v156 v157 v158 v159 v160 v161 v162 v163 v164 v165 v166 v167 v168 v169 v170 v171 v172 v173 v174 v175 v176 v177 v178 v179 v180 v181 v182 v183 v184 v185 v186 v187 v188 v189 v190 v191 v192 v193 v194 v195 v196 v197 v198 v199 v200 v201 v202 v203 v204 v205 v206 v207 v208 v209 v210 v211 v212 v213 v214 v215 v216 v217 v218 v219 v220 v221 v222 v223 v224 v225 v226 v227 v228 v229 v230 v231 v232 v233 v234 v235 v236 v237 v238 v239 v240 v241 v242 v243 v244 v245 v246 v247 v248 v249 v250 v251 v252 v253 v254 v255 v256 v257 v258 v259 v260 v261 v262 v263 v264 v265 v266 v267 v268 v269 v270 v271 v272 v273 v274 v275 v276 v277 v278 v279 v280 v281 v282 v283 v284 v285 v286 v287 v288 v289 v290 v291 v292 v293 v294 v295 v296 v297 v298 v299 v300 v301 v302 v303 v304 v305 v306 v307 v308 v309 v310 v311 v312 v313 v314 v315 v316 v317 v318 v319 v320 v321 v322 v323 v324 v325 v326 v327 v328 v329 v330 v331 v332 v333 v334 v335 v336 v337 v338 v339 v340 v341 v342 v343 v344 v345 v346 v347 v348 v349 v350 v351 v352 v353 v354 v355 v356 v357 v358 v359 v360 v361 v362 v363 v364 v365 v366 v367 v368 v369 v370 v371 v372 v373 v374 v375 v376 v377 v378 v379 v380 v381 v382 v383 v384 v385 v386 v387 v388 v389 v390 v391 v392 v393 v394 v395 v396 v397 v398 v399 v400 v401 v402 v403 v404 v405 v406 v407 v408 v409 v410 v411 v412 v413 v414 v415 v416 v417 v418 v419 v420 v421 v422 v423 v424 v425 v426 v427 v428 v429 v430 v431 v432 v433 : Value)
    (hfn : fn ≤ 1024) (hk : k ≤ 1024) (hmp0 : 1 ≤ mp) (hmp : mp ≤ 4) (hev : ((fl'.length : Int), pk) = ev (16 * lim mp) k (((fn - k1 : Nat) : Int), 0))
    (h58 : ∀ (v18 v20 v21 v23 v24 v25 v26 v28 v29 v31 v32 v35 v37 v38 v39 v40 v41 v42 v43 v44 v45 v46 v47 v48 v49 v50 v51 v52 v53 v54 v55 v56 v57 v58 v59 v60 v61 v62 v63 v64 v65 v66 v67 v68 v69 v70 v71 v72 v73 v74 v75 v76 v77 v78 v79 v80 v81 v82 v83 v84 v85 v86 v87 v88 v89 v90 v91 v92 v93 v94 v95 v96 v97 v98 v99 v100 v101 v102 v103 v104 v105 v106 v107 v108 v109 v110 v111 v112 v113 v114 v115 v116 v117 v118 v119 v120 v121 v122 v123 v124 v125 v126 v127 v128 v129 v130 v131 v132 v133 v134 v135 v136 v137 v138 v139 v140 v141 v142 v143 v144 v145 v146 v147 v148 v149 v150 v151 v152 v153 v154 v155 v156 v157 v158 v159 v160 v161 v162 v163 v164 v165 v166 v167 v168 v169 v170 v171 v172 v173 v174 v175 v176 v177 v178 v179 v180 v181 v182 v183 v184 v185 v186 v187 v188 v189 v190 v191 v192 v193 v194 v195 v196 v197 v198 v199 v200 v201 v202 v203 v204 v205 v206 v207 v208 v209 v210 v211 v212 v213 v214 v215 v216 v217 v218 v219 v220 v221 v222 v223 v224 v225 v226 v227 v228 v229 v230 v231 v232 v233 v234 v235 v236 v237 v238 v239 v240 v241 v242 v243 v244 v245 v246 v247 v248 v249 v250 v251 v252 v253 v254 v255 v256 v257 v258 v259 v260 v261 v262 v263 v264 v265 v266 v267 v268 v269 v270 v271 v272 v273 v274 v275 v276 v277 v278 v279 v280 v281 v282 v283 v284 v285 v286 v287 v288 v289 v290 v291 v292 v293 v294 v295 v296 v297 v298 v299 v300 v301 v302 v303 v304 v305 v306 v307 v308 v309 v310 v311 v312 v313 v314 v315 v316 v317 v318 v319 v320 v321 v322 v323 v324 v325 v326 v327 v328 v329 v330 v331 v332 v333 v334 v335 v336 v337 v338 v339 v340 v341 v342 v343 v344 v345 v346 v347 v348 v349 v350 v351 v352 v353 v354 v355 v356 v357 v358 v359 v360 v361 v362 v363 v364 v365 v366 v367 v368 v369 v370 v371 v372 v373 v374 v375 v376 v377 v378 v379 v380 v381 v382 v383 v384 v385 v386 v387 v388 v389 v390 v391 v392 v393 v394 v395 v396 v397 v398 v399 v400 v401 v402 v403 v404 v405 v406 v407 v408 v409 v410 v411 v412 v413 v414 v415 v416 v417 v418 v419 v420 v421 v422 v423 v424 v425 v426 v427 v428 v429 v430 v431 v432 v433 : Value), Code.wp Yba.prog (fromR 58 (Yba.f3.body.getD .skip)) (bodyPost Yba.prog Yba.f3 R) ⟨#[.int .i64 ts, .int .u8 mpb, .int .u16 now, .slice fa fn fc, .slice ma mn mc, .int .u8 pre, undef, undef, undef, undef, undef, undef, .bool false, .int .i64 mp, P2 decb 0, .int .i64 (rto tmo), P2 rb 0, P2 tb 0, v18, .slice (some ⟨fb, 0, none⟩) fn fn, v20, v21, .slice (some ⟨gb, 0, none⟩) mn mn, v23, v24, v25, v26, .int .i64 (np : Int), v28, v29, ov, v31, v32, .int .i64 (fl'.length : Int), .int .i64 (k : Int), v35, .int .i64 pk, v37, v38, v39, v40, v41, v42, v43, v44, v45, v46, v47, v48, v49, v50, v51, v52, v53, v54, v55, v56, v57, v58, v59, v60, v61, v62, v63, v64, v65, v66, v67, v68, v69, v70, v71, v72, v73, v74, v75, v76, v77, v78, v79, v80, v81, v82, v83, v84, v85, v86, v87, v88, v89, v90, v91, v92, v93, v94, v95, v96, v97, v98, v99, v100, v101, v102, v103, v104, v105, v106, v107, v108, v109, v110, v111, v112, v113, v114, v115, v116, v117, v118, v119, v120, v121, v122, v123, v124, v125, v126, v127, v128, v129, v130, v131, v132, v133, v134, v135, v136, v137, v138, v139, v140, v141, v142, v143, v144, v145, v146, v147, v148, v149, v150, v151, v152, v153, v154, v155, v156, v157, v158, v159, v160, v161, v162, v163, v164, v165, v166, v167, v168, v169, v170, v171, v172, v173, v174, v175, v176, v177, v178, v179, v180, v181, v182, v183, v184, v185, v186, v187, v188, v189, v190, v191, v192, v193, v194, v195, v196, v197, v198, v199, v200, v201, v202, v203, v204, v205, v206, v207, v208, v209, v210, v211, v212, v213, v214, v215, v216, v217, v218, v219, v220, v221, v222, v223, v224, v225, v226, v227, v228, v229, v230, v231, v232, v233, v234, v235, v236, v237, v238, v239, v240, v241, v242, v243, v244, v245, v246, v247, v248, v249, v250, v251, v252, v253, v254, v255, v256, v257, v258, v259, v260, v261, v262, v263, v264, v265, v266, v267, v268, v269, v270, v271, v272, v273, v274, v275, v276, v277, v278, v279, v280, v281, v282, v283, v284, v285, v286, v287, v288, v289, v290, v291, v292, v293, v294, v295, v296, v297, v298, v299, v300, v301, v302, v303, v304, v305, v306, v307, v308, v309, v310, v311, v312, v313, v314, v315, v316, v317, v318, v319, v320, v321, v322, v323, v324, v325, v326, v327, v328, v329, v330, v331, v332, v333, v334, v335, v336, v337, v338, v339, v340, v341, v342, v343, v344, v345, v346, v347, v348, v349, v350, v351, v352, v353, v354, v355, v356, v357, v358, v359, v360, v361, v362, v363, v364, v365, v366, v367, v368, v369, v370, v371, v372, v373, v374, v375, v376, v377, v378, v379, v380, v381, v382, v383, v384, v385, v386, v387, v388, v389, v390, v391, v392, v393, v394, v395, v396, v397, v398, v399, v400, v401, v402, v403, v404, v405, v406, v407, v408, v409, v410, v411, v412, v413, v414, v415, v416, v417, v418, v419, v420, v421, v422, v423, v424, v425, v426, v427, v428, v429, v430, v431, v432, v433], []⟩ w') :
    Code.wp Yba.prog (fromR 48 (Yba.f3.body.getD .skip)) (bodyPost Yba.prog Yba.f3 R) ⟨#[.int .i64 ts, .int .u8 mpb, .int .u16 now, .slice fa fn fc, .slice ma mn mc, .int .u8 pre, undef, undef, undef, undef, undef, undef, .bool false, .int .i64 mp, P2 decb 0, .int .i64 (rto tmo), P2 rb 0, P2 tb 0, v18, .slice (some ⟨fb, 0, none⟩) fn fn, v20, v21, .slice (some ⟨gb, 0, none⟩) mn mn, v23, v24, v25, v26, .int .i64 (np : Int), v28, v29, ov, v31, v32, .int .i64 ((fn - k1 : Nat) : Int), .int .i64 (k : Int), v35, v36, v37, v38, v39, v40, v41, v42, v43, v44, v45, v46, v47, v48, v49, v50, v51, v52, v53, v54, v55, v56, v57, v58, v59, v60, v61, v62, v63, v64, v65, v66, v67, v68, v69, v70, v71, v72, v73, v74, v75, v76, v77, v78, v79, v80, v81, v82, v83, v84, v85, v86, v87, v88, v89, v90, v91, v92, v93, v94, v95, v96, v97, v98, v99, v100, v101, v102, v103, v104, v105, v106, v107, v108, v109, v110, v111, v112, v113, v114, v115, v116, v117, v118, v119, v120, v121, v122, v123, v124, v125, v126, v127, v128, v129, v130, v131, v132, v133, v134, v135, v136, v137, v138, v139, v140, v141, v142, v143, v144, v145, v146, v147, v148, v149, v150, v151, v152, v153, v154, v155, v156, v157, v158, v159, v160, v161, v162, v163, v164, v165, v166, v167, v168, v169, v170, v171, v172, v173, v174, v175, v176, v177, v178, v179, v180, v181, v182, v183, v184, v185, v186, v187, v188, v189, v190, v191, v192, v193, v194, v195, v196, v197, v198, v199, v200, v201, v202, v203, v204, v205, v206, v207, v208, v209, v210, v211, v212, v213, v214, v215, v216, v217, v218, v219, v220, v221, v222, v223, v224, v225, v226, v227, v228, v229, v230, v231, v232, v233, v234, v235, v236, v237, v238, v239, v240, v241, v242, v243, v244, v245, v246, v247, v248, v249, v250, v251, v252, v253, v254, v255, v256, v257, v258, v259, v260, v261, v262, v263, v264, v265, v266, v267, v268, v269, v270, v271, v272, v273, v274, v275, v276, v277, v278, v279, v280, v281, v282, v283, v284, v285, v286, v287, v288, v289, v290, v291, v292, v293, v294, v295, v296, v297, v298, v299, v300, v301, v302, v303, v304, v305, v306, v307, v308, v309, v310, v311, v312, v313, v314, v315, v316, v317, v318, v319, v320, v321, v322, v323, v324, v325, v326, v327, v328, v329, v330, v331, v332, v333, v334, v335, v336, v337, v338, v339, v340, v341, v342, v343, v344, v345, v346, v347, v348, v349, v350, v351, v352, v353, v354, v355, v356, v357, v358, v359, v360, v361, v362, v363, v364, v365, v366, v367, v368, v369, v370, v371, v372, v373, v374, v375, v376, v377, v378, v379, v380, v381, v382, v383, v384, v385, v386, v387, v388, v389, v390, v391, v392, v393, v394, v395, v396, v397, v398, v399, v400, v401, v402, v403, v404, v405, v406, v407, v408, v409, v410, v411, v412, v413, v414, v415, v416, v417, v418, v419, v420, v421, v422, v423, v424, v425, v426, v427, v428, v429, v430, v431, v432, v433], []⟩ w' := by
  dsimp only at h58 ⊢
  conv => arg 2; whnf
  unfold P2
  have hlim : lim mp = mp := by unfold lim; rw [if_neg (by omega)]
  rw [hlim] at hev
  have HK : Hid _ := h58
  have HEV : Hid _ := hev
  have hw0 : IntKind.i64.wrap (16 * mp) = 16 * mp := by rw [IntKind.wrap_i64]; omega
  clear h58 hev hlim
  go_wp2_with fail
  clear hw0
  go_loopg [33, 36, 37] k (fun g f p t wr => ∃ j : Nat, j ≤ k ∧ g = k - j ∧ t = .int .i64 j ∧ wr = w' ∧ f = .int .i64 (ev (16 * mp) j (((fn - k1 : Nat) : Int), 0)).1 ∧ p = .int .i64 (ev (16 * mp) j (((fn - k1 : Nat) : Int), 0)).2)
  case atStart => exact ⟨0, Nat.zero_le _, rfl, rfl, rfl, rfl, rfl⟩
  case round =>
    obtain ⟨j, hj, hg, rfl, hwr, rfl, rfl⟩ := hrel
    rw [hwr]
    clear hwr
    by_cases hjn : j < k
    · have hb := ev_bound (L := 16 * mp) (a := ((fn - k1 : Nat) : Int)) (by omega) (by omega) 0 j
      have hstep : ev (16 * mp) (j + 1) (((fn - k1 : Nat) : Int), 0) = evs (16 * mp) (ev (16 * mp) j (((fn - k1 : Nat) : Int), 0)) := rfl
      have HST : Hid _ := hstep
      clear hstep
      generalize hfv : (ev (16 * mp) j (((fn - k1 : Nat) : Int), 0)).1 = fv at hb ⊢
      generalize hpv : (ev (16 * mp) j (((fn - k1 : Nat) : Int), 0)).2 = pv
      have HFV : Hid _ := hfv
      have HPV : Hid _ := hpv
      clear hfv hpv
      have hw9 : IntKind.i64.wrap ((j : Int) + 1) = (j : Int) + 1 := by rw [IntKind.wrap_i64]; omega
      have hw1 : IntKind.i64.wrap (fv - 1) = fv - 1 := by rw [IntKind.wrap_i64]; omega
      have hw2 : IntKind.i64.wrap (fv + 1) = fv + 1 := by rw [IntKind.wrap_i64]; omega
      have hw3 : IntKind.i64.wrap (fv - 1 + 1) = fv - 1 + 1 := by rw [IntKind.wrap_i64]; omega
      have hw4 : IntKind.i64.wrap fv = fv := by rw [IntKind.wrap_i64]; omega
      by_cases h1 : 16 * mp ≤ fv
      · by_cases h2 : pv < fv
        · have e1 : decide (16 * mp ≤ fv) = true := by simpa using h1
          have e2 : decide (pv < fv) = true := by simpa using h2
          have H1 : Hid (16 * mp ≤ fv ∧ pv < fv) := ⟨h1, h2⟩
          clear h1 h2
          go_wp2
          go_roundg (k - (j + 1))
          case measure => omega
          case rel =>
            refine ⟨j + 1, by omega, rfl, by simp, rfl, ?_, ?_⟩
            · rw [HST.out]; simp only [evs, HFV.out, HPV.out]; rw [if_pos H1.out.1]; simp
            · rw [HST.out]; simp only [evs, HFV.out, HPV.out]; rw [if_pos H1.out.1, if_pos (by have := H1.out.2; omega)]; simp
        · have e1 : decide (16 * mp ≤ fv) = true := by simpa using h1
          have e2 : decide (pv < fv) = false := by simpa using h2
          have H1 : Hid (16 * mp ≤ fv ∧ ¬ pv < fv) := ⟨h1, h2⟩
          clear h1 h2
          go_wp2
          go_roundg (k - (j + 1))
          case measure => omega
          case rel =>
            refine ⟨j + 1, by omega, rfl, by simp, rfl, ?_, ?_⟩
            · rw [HST.out]; simp only [evs, HFV.out, HPV.out]; rw [if_pos H1.out.1]; simp
            · rw [HST.out]; simp only [evs, HFV.out, HPV.out]; rw [if_pos H1.out.1, if_neg (by have := H1.out.2; omega)]
      · by_cases h2 : pv < fv + 1
        · have e1 : decide (16 * mp ≤ fv) = false := by simpa using h1
          have e2 : decide (pv < fv + 1) = true := by simpa using h2
          have H1 : Hid (¬ 16 * mp ≤ fv ∧ pv < fv + 1) := ⟨h1, h2⟩
          clear h1 h2
          go_wp2
          go_roundg (k - (j + 1))
          case measure => omega
          case rel =>
            refine ⟨j + 1, by omega, rfl, by simp, rfl, ?_, ?_⟩
            · have g1 : ¬ 16 * mp ≤ fv := by have := H1.out.1; omega
              rw [HST.out]; simp only [evs, HFV.out, HPV.out, if_neg g1]
            · have g1 : ¬ 16 * mp ≤ fv := by have := H1.out.1; omega
              have g2 : pv < fv + 1 := by have := H1.out.2; omega
              rw [HST.out]; simp only [evs, HFV.out, HPV.out, if_neg g1, if_pos g2]
        · have e1 : decide (16 * mp ≤ fv) = false := by simpa using h1
          have e2 : decide (pv < fv + 1) = false := by simpa using h2
          have H1 : Hid (¬ 16 * mp ≤ fv ∧ ¬ pv < fv + 1) := ⟨h1, h2⟩
          clear h1 h2
          go_wp2
          go_roundg (k - (j + 1))
          case measure => omega
          case rel =>
            refine ⟨j + 1, by omega, rfl, by simp, rfl, ?_, ?_⟩
            · have g1 : ¬ 16 * mp ≤ fv := by have := H1.out.1; omega
              rw [HST.out]; simp only [evs, HFV.out, HPV.out, if_neg g1]
            · have g1 : ¬ 16 * mp ≤ fv := by have := H1.out.1; omega
              have g2 : ¬ pv < fv + 1 := by have := H1.out.2; omega
              rw [HST.out]; simp only [evs, HFV.out, HPV.out, if_neg g1, if_neg g2]
    · have hjk : j = k := by omega
      subst hjk
      rw [← HEV.out]
      dsimp only
      go_upto_if 244 with fail
      refine wp_cond_false (by rfl) (wp_exit ?_)
      simp only [Exit.then, Exit.inBlock, if_true]
      apply_assumption
      exact HK.out _ _ _ _ _ _ _ _ _ _ _ _ _ _ _ _ _ _ _ _ _ _ _ _ _ _ _ _ _ _ _ _ _ _ _ _ _ _ _ _ _ _ _ _ _ _ _ _ _ _ _ _ _ _ _ _ _ _ _ _ _ _ _ _ _ _ _ _ _ _ _ _ _ _ _ _ _ _ _ _ _ _ _ _ _ _ _ _ _ _ _ _ _ _ _ _ _ _ _ _ _ _ _ _ _ _ _ _ _ _ _ _ _ _ _ _ _ _ _ _ _ _ _ _ _ _ _ _ _ _ _ _ _ _ _ _ _ _ _ _ _ _ _ _ _ _ _ _ _ _ _ _ _ _ _ _ _ _ _ _ _ _ _ _ _ _ _ _ _ _ _ _ _ _ _ _ _ _ _ _ _ _ _ _ _ _ _ _ _ _ _ _ _ _ _ _ _ _ _ _ _ _ _ _ _ _ _ _ _ _ _ _ _ _ _ _ _ _ _ _ _ _ _ _ _ _ _ _ _ _ _ _ _ _ _ _ _ _ _ _ _ _ _ _ _ _ _ _ _ _ _ _ _ _ _ _ _ _ _ _ _ _ _ _ _ _ _ _ _ _ _ _ _ _ _ _ _ _ _ _ _ _ _ _ _ _ _ _ _ _ _ _ _ _ _ _ _ _ _ _ _ _ _ _ _ _ _ _ _ _ _ _ _ _ _ _ _ _ _ _ _ _ _ _ _ _ _ _ _ _ _ _ _ _ _ _ _ _ _ _ _ _ _ _ _ _ _ _ _ _ _ _ _ _ _ _ _ _ _ _ _ _ _ _ _ _ _ _ _ _ _ _ _ _ _ _ _ _ _ _ _ _ _ _ _ _ _ _ _ _ _ _ _ _ _ _ _ _ _ _ _ _ _ _ _ _ _ _ _
end Go.Proofs.Ybulkakzc
