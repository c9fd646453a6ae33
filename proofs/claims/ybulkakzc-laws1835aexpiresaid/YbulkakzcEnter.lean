/-
  THE LAW OF EXPIRING (seat b1835a): its beginning.
-/
import Derived.Test.YbulkakzcBody2
import Derived.Test.YbulkakzcLa1
import Derived.Carry
namespace Go.Proofs.Ybulkakzc
open Go.RowKit
set_option linter.unusedSimpArgs false

set_option maxRecDepth 100000 in
set_option maxHeartbeats 8000000 in
theorem enterA (w0 : World) (ts mpb now pre : Int) (fa : Option Addr) (fn fc : Nat) (ma : Option Addr) (mn mc : Nat) (hm0 : 0 ≤ mpb) (hm1 : mpb < 256) (R : Ending → World → Prop)
    (hR : R (.returned (.bool true)) w0)
    (h8 : ∀ (mp tmo : Int) (decb : Nat) (v16 v17 v18 v19 v20 v21 v22 v23 v24 v25 v26 v27 v28 v29 v30 v31 v32 v33 v34 v35 v36 v37 v38 v39 v40 v41 v42 v43 v44 v45 v46 v47 v48 v49 v50 v51 v52 v53 v54 v55 v56 v57 v58 v59 v60 v61 v62 v63 v64 v65 v66 v67 v68 v69 v70 v71 v72 v73 v74 v75 v76 v77 v78 v79 v80 v81 v82 v83 v84 v85 v86 v87 v88 v89 v90 v91 v92 v93 v94 v95 v96 v97 v98 v99 v100 v101 v102 v103 v104 v105 v106 v107 v108 v109 v110 v111 v112 v113 v114 v115 v116 v117 v118 v119 v120 v121 v122 v123 v124 v125 v126 v127 v128 v129 v130 v131 v132 v133 v134 v135 v136 v137 v138 v139 v140 v141 v142 v143 v144 v145 v146 v147 v148 v149 v150 v151 v152 v153 v154 v155 v156 v157 v158 v159 v160 v161 v162 v163 v164 v165 v166 v167 v168 v169 v170 v171 v172 v173 v174 v175 v176 v177 v178 v179 v180 v181 v182 v183 v184 v185 v186 v187 v188 v189 v190 v191 v192 v193 v194 v195 v196 v197 v198 v199 v200 v201 v202 v203 v204 v205 v206 v207 v208 v209 v210 v211 v212 v213 v214 v215 v216 v217 v218 v219 v220 v221 v222 v223 v224 v225 v226 v227 v228 v229 v230 v231 v232 v233 v234 v235 v236 v237 v238 v239 v240 v241 v242 v243 v244 v245 v246 v247 v248 v249 v250 v251 v252 v253 v254 v255 v256 v257 v258 v259 v260 v261 v262 v263 v264 v265 v266 v267 v268 v269 v270 v271 v272 v273 v274 v275 v276 v277 v278 v279 v280 v281 v282 v283 v284 v285 v286 v287 v288 v289 v290 v291 v292 v293 v294 v295 v296 v297 v298 v299 v300 v301 v302 v303 v304 v305 v306 v307 v308 v309 v310 v311 v312 v313 v314 v315 v316 v317 v318 v319 v320 v321 v322 v323 v324 v325 v326 v327 v328 v329 v330 v331 v332 v333 v334 v335 v336 v337 v338 v339 v340 v341 v342 v343 v344 v345 v346 v347 v348 v349 v350 v351 v352 v353 v354 v355 v356 v357 v358 v359 v360 v361 v362 v363 v364 v365 v366 v367 v368 v369 v370 v371 v372 v373 v374 v375 v376 v377 v378 v379 v380 v381 v382 v383 v384 v385 v386 v387 v388 v389 v390 v391 v392 v393 v394 v395 v396 v397 v398 v399 v400 v401 v402 v403 v404 v405 v406 v407 v408 v409 v410 v411 v412 v413 v414 v415 v416 v417 v418 v419 v420 v421 v422 v423 v424 v425 v426 v427 v428 v429 v430 v431 v432 v433 : Value) (w : World), fn ≤ 1024 → mn ≤ 1024 → 1 ≤ mp → mp ≤ 4 → Same w0 w → w.heap[decb]? = some (.cells #[.int .i64 0, .slice none 0 0, .bool false, .int .i64 0, .int .i64 tmo, .int .i64 mp, .int .i64 0] 28 (0, 0)) → Code.wp Yba.prog (fromR 8 (Yba.f3.body.getD .skip)) (bodyPost Yba.prog Yba.f3 R) ⟨#[.int .i64 ts, .int .u8 mpb, .int .u16 now, .slice fa fn fc, .slice ma mn mc, .int .u8 pre, undef, undef, undef, undef, undef, undef, .bool false, .int .i64 mp, P2 decb 0, .int .i64 (rto tmo), v16, v17, v18, v19, v20, v21, v22, v23, v24, v25, v26, v27, v28, v29, v30, v31, v32, v33, v34, v35, v36, v37, v38, v39, v40, v41, v42, v43, v44, v45, v46, v47, v48, v49, v50, v51, v52, v53, v54, v55, v56, v57, v58, v59, v60, v61, v62, v63, v64, v65, v66, v67, v68, v69, v70, v71, v72, v73, v74, v75, v76, v77, v78, v79, v80, v81, v82, v83, v84, v85, v86, v87, v88, v89, v90, v91, v92, v93, v94, v95, v96, v97, v98, v99, v100, v101, v102, v103, v104, v105, v106, v107, v108, v109, v110, v111, v112, v113, v114, v115, v116, v117, v118, v119, v120, v121, v122, v123, v124, v125, v126, v127, v128, v129, v130, v131, v132, v133, v134, v135, v136, v137, v138, v139, v140, v141, v142, v143, v144, v145, v146, v147, v148, v149, v150, v151, v152, v153, v154, v155, v156, v157, v158, v159, v160, v161, v162, v163, v164, v165, v166, v167, v168, v169, v170, v171, v172, v173, v174, v175, v176, v177, v178, v179, v180, v181, v182, v183, v184, v185, v186, v187, v188, v189, v190, v191, v192, v193, v194, v195, v196, v197, v198, v199, v200, v201, v202, v203, v204, v205, v206, v207, v208, v209, v210, v211, v212, v213, v214, v215, v216, v217, v218, v219, v220, v221, v222, v223, v224, v225, v226, v227, v228, v229, v230, v231, v232, v233, v234, v235, v236, v237, v238, v239, v240, v241, v242, v243, v244, v245, v246, v247, v248, v249, v250, v251, v252, v253, v254, v255, v256, v257, v258, v259, v260, v261, v262, v263, v264, v265, v266, v267, v268, v269, v270, v271, v272, v273, v274, v275, v276, v277, v278, v279, v280, v281, v282, v283, v284, v285, v286, v287, v288, v289, v290, v291, v292, v293, v294, v295, v296, v297, v298, v299, v300, v301, v302, v303, v304, v305, v306, v307, v308, v309, v310, v311, v312, v313, v314, v315, v316, v317, v318, v319, v320, v321, v322, v323, v324, v325, v326, v327, v328, v329, v330, v331, v332, v333, v334, v335, v336, v337, v338, v339, v340, v341, v342, v343, v344, v345, v346, v347, v348, v349, v350, v351, v352, v353, v354, v355, v356, v357, v358, v359, v360, v361, v362, v363, v364, v365, v366, v367, v368, v369, v370, v371, v372, v373, v374, v375, v376, v377, v378, v379, v380, v381, v382, v383, v384, v385, v386, v387, v388, v389, v390, v391, v392, v393, v394, v395, v396, v397, v398, v399, v400, v401, v402, v403, v404, v405, v406, v407, v408, v409, v410, v411, v412, v413, v414, v415, v416, v417, v418, v419, v420, v421, v422, v423, v424, v425, v426, v427, v428, v429, v430, v431, v432, v433], []⟩ w) :
    Calls Yba.prog 3 #[.int .i64 ts, .int .u8 mpb, .int .u16 now, .slice fa fn fc, .slice ma mn mc, .int .u8 pre] w0 R := by
  dsimp only at h8
  have HR : Hid _ := hR
  have HK : Hid _ := h8
  clear hR h8
  go_enter Yba.func3, Yba.ntmps3
  by_cases hbig : 1024 < fn
  · have e1 : decide ((1024 : Int) < (fn : Int)) = true := by simp; omega
    go_wp2
    exact HR.out
  · have e1 : decide ((1024 : Int) < (fn : Int)) = false := by simp; omega
    by_cases hbig2 : 1024 < mn
    · have e2 : decide ((1024 : Int) < (mn : Int)) = true := by simp; omega
      go_wp2
      exact HR.out
    · have e2 : decide ((1024 : Int) < (mn : Int)) = false := by simp; omega
      obtain ⟨mp, hmp⟩ : ∃ mp : Int, mp = mpb % 4 + 1 := ⟨_, rfl⟩
      obtain ⟨tmo, htmo⟩ : ∃ tmo : Int, tmo = IntKind.i64.wrap (ts * 1000000000) := ⟨_, rfl⟩
      have hwm : IntKind.i64.wrap (mpb % 4) = mpb % 4 := by rw [IntKind.wrap_i64]; omega
      have hwm2 : IntKind.i64.wrap (mpb % 4 + 1) = mp := by rw [IntKind.wrap_i64]; omega
      have hwm3 : mpb % 4 + 1 = mp := hmp.symm
      have hwt : IntKind.i64.wrap (ts * 1000000000) = tmo := htmo.symm
      have HMP : Hid (1 ≤ mp ∧ mp ≤ 4) := ⟨by omega, by omega⟩
      clear hmp htmo
      by_cases ht : tmo ≤ 0
      · have e3 : decide (tmo ≤ 0) = true := by simpa using ht
        have HT : Hid (rto tmo = 120000000000) := by unfold rto; exact if_pos ht
        clear ht
        go_upto_if 69 with fail
        go_cut [15] from 46 to 69 (fun v wx => v = .int .i64 (rto tmo) ∧ wx = w0.alloc (.cells #[.int .i64 0, .slice none 0 0, .bool false, .int .i64 0, .int .i64 tmo, .int .i64 mp, .int .i64 0] 28))
        case first =>
          go_wp2
          go_meet
          case rel => exact ⟨by rw [HT.out], rfl⟩
        case rest =>
          obtain ⟨hv, hwc⟩ := hcut
          subst hv
          rw [hwc]
          apply_assumption
          exact HK.out mp tmo w0.heap.size _ _ _ _ _ _ _ _ _ _ _ _ _ _ _ _ _ _ _ _ _ _ _ _ _ _ _ _ _ _ _ _ _ _ _ _ _ _ _ _ _ _ _ _ _ _ _ _ _ _ _ _ _ _ _ _ _ _ _ _ _ _ _ _ _ _ _ _ _ _ _ _ _ _ _ _ _ _ _ _ _ _ _ _ _ _ _ _ _ _ _ _ _ _ _ _ _ _ _ _ _ _ _ _ _ _ _ _ _ _ _ _ _ _ _ _ _ _ _ _ _ _ _ _ _ _ _ _ _ _ _ _ _ _ _ _ _ _ _ _ _ _ _ _ _ _ _ _ _ _ _ _ _ _ _ _ _ _ _ _ _ _ _ _ _ _ _ _ _ _ _ _ _ _ _ _ _ _ _ _ _ _ _ _ _ _ _ _ _ _ _ _ _ _ _ _ _ _ _ _ _ _ _ _ _ _ _ _ _ _ _ _ _ _ _ _ _ _ _ _ _ _ _ _ _ _ _ _ _ _ _ _ _ _ _ _ _ _ _ _ _ _ _ _ _ _ _ _ _ _ _ _ _ _ _ _ _ _ _ _ _ _ _ _ _ _ _ _ _ _ _ _ _ _ _ _ _ _ _ _ _ _ _ _ _ _ _ _ _ _ _ _ _ _ _ _ _ _ _ _ _ _ _ _ _ _ _ _ _ _ _ _ _ _ _ _ _ _ _ _ _ _ _ _ _ _ _ _ _ _ _ _ _ _ _ _ _ _ _ _ _ _ _ _ _ _ _ _ _ _ _ _ _ _ _ _ _ _ _ _ _ _ _ _ _ _ _ _ _ _ _ _ _ _ _ _ _ _ _ _ _ _ _ _ _ _ _ _ _ _ _ _ _ _ _ _ _ _ _ _ _ _ _ _ _ _ _ _ _ _ _ _ _ _ _ _ _ _ _ (by omega) (by omega) HMP.out.1 HMP.out.2 ((Same.refl w0).alloc _) (heap_alloc_new _ _)
      · have e3 : decide (tmo ≤ 0) = false := by simpa using ht
        by_cases ht2 : 120000000000 < tmo
        · have e4 : decide (120000000000 < tmo) = true := by simpa using ht2
          have HT : Hid (rto tmo = 120000000000) := by unfold rto; exact (if_neg ht).trans (if_pos ht2)
          clear ht ht2
          go_upto_if 69 with fail
          go_cut [15] from 46 to 69 (fun v wx => v = .int .i64 (rto tmo) ∧ wx = w0.alloc (.cells #[.int .i64 0, .slice none 0 0, .bool false, .int .i64 0, .int .i64 tmo, .int .i64 mp, .int .i64 0] 28))
          case first =>
            go_wp2
            go_meet
            case rel => exact ⟨by rw [HT.out], rfl⟩
          case rest =>
            obtain ⟨hv, hwc⟩ := hcut
            subst hv
            rw [hwc]
            apply_assumption
            exact HK.out mp tmo w0.heap.size _ _ _ _ _ _ _ _ _ _ _ _ _ _ _ _ _ _ _ _ _ _ _ _ _ _ _ _ _ _ _ _ _ _ _ _ _ _ _ _ _ _ _ _ _ _ _ _ _ _ _ _ _ _ _ _ _ _ _ _ _ _ _ _ _ _ _ _ _ _ _ _ _ _ _ _ _ _ _ _ _ _ _ _ _ _ _ _ _ _ _ _ _ _ _ _ _ _ _ _ _ _ _ _ _ _ _ _ _ _ _ _ _ _ _ _ _ _ _ _ _ _ _ _ _ _ _ _ _ _ _ _ _ _ _ _ _ _ _ _ _ _ _ _ _ _ _ _ _ _ _ _ _ _ _ _ _ _ _ _ _ _ _ _ _ _ _ _ _ _ _ _ _ _ _ _ _ _ _ _ _ _ _ _ _ _ _ _ _ _ _ _ _ _ _ _ _ _ _ _ _ _ _ _ _ _ _ _ _ _ _ _ _ _ _ _ _ _ _ _ _ _ _ _ _ _ _ _ _ _ _ _ _ _ _ _ _ _ _ _ _ _ _ _ _ _ _ _ _ _ _ _ _ _ _ _ _ _ _ _ _ _ _ _ _ _ _ _ _ _ _ _ _ _ _ _ _ _ _ _ _ _ _ _ _ _ _ _ _ _ _ _ _ _ _ _ _ _ _ _ _ _ _ _ _ _ _ _ _ _ _ _ _ _ _ _ _ _ _ _ _ _ _ _ _ _ _ _ _ _ _ _ _ _ _ _ _ _ _ _ _ _ _ _ _ _ _ _ _ _ _ _ _ _ _ _ _ _ _ _ _ _ _ _ _ _ _ _ _ _ _ _ _ _ _ _ _ _ _ _ _ _ _ _ _ _ _ _ _ _ _ _ _ _ _ _ _ _ _ _ _ _ _ _ _ _ _ _ _ _ _ _ _ _ _ _ _ _ _ (by omega) (by omega) HMP.out.1 HMP.out.2 ((Same.refl w0).alloc _) (heap_alloc_new _ _)
        · have e4 : decide (120000000000 < tmo) = false := by simpa using ht2
          have HT : Hid (rto tmo = tmo) := by unfold rto; exact (if_neg ht).trans (if_neg ht2)
          clear ht ht2
          go_upto_if 69 with fail
          go_cut [15] from 46 to 69 (fun v wx => v = .int .i64 (rto tmo) ∧ wx = w0.alloc (.cells #[.int .i64 0, .slice none 0 0, .bool false, .int .i64 0, .int .i64 tmo, .int .i64 mp, .int .i64 0] 28))
          case first =>
            go_wp2
            go_meet
            case rel => exact ⟨by rw [HT.out], rfl⟩
          case rest =>
            obtain ⟨hv, hwc⟩ := hcut
            subst hv
            rw [hwc]
            apply_assumption
            exact HK.out mp tmo w0.heap.size _ _ _ _ _ _ _ _ _ _ _ _ _ _ _ _ _ _ _ _ _ _ _ _ _ _ _ _ _ _ _ _ _ _ _ _ _ _ _ _ _ _ _ _ _ _ _ _ _ _ _ _ _ _ _ _ _ _ _ _ _ _ _ _ _ _ _ _ _ _ _ _ _ _ _ _ _ _ _ _ _ _ _ _ _ _ _ _ _ _ _ _ _ _ _ _ _ _ _ _ _ _ _ _ _ _ _ _ _ _ _ _ _ _ _ _ _ _ _ _ _ _ _ _ _ _ _ _ _ _ _ _ _ _ _ _ _ _ _ _ _ _ _ _ _ _ _ _ _ _ _ _ _ _ _ _ _ _ _ _ _ _ _ _ _ _ _ _ _ _ _ _ _ _ _ _ _ _ _ _ _ _ _ _ _ _ _ _ _ _ _ _ _ _ _ _ _ _ _ _ _ _ _ _ _ _ _ _ _ _ _ _ _ _ _ _ _ _ _ _ _ _ _ _ _ _ _ _ _ _ _ _ _ _ _ _ _ _ _ _ _ _ _ _ _ _ _ _ _ _ _ _ _ _ _ _ _ _ _ _ _ _ _ _ _ _ _ _ _ _ _ _ _ _ _ _ _ _ _ _ _ _ _ _ _ _ _ _ _ _ _ _ _ _ _ _ _ _ _ _ _ _ _ _ _ _ _ _ _ _ _ _ _ _ _ _ _ _ _ _ _ _ _ _ _ _ _ _ _ _ _ _ _ _ _ _ _ _ _ _ _ _ _ _ _ _ _ _ _ _ _ _ _ _ _ _ _ _ _ _ _ _ _ _ _ _ _ _ _ _ _ _ _ _ _ _ _ _ _ _ _ _ _ _ _ _ _ _ _ _ _ _ _ _ _ _ _ _ _ _ _ _ _ _ _ _ _ _ _ _ _ _ _ _ _ _ _ _ _ (by omega) (by omega) HMP.out.1 HMP.out.2 ((Same.refl w0).alloc _) (heap_alloc_new _ _)
end Go.Proofs.Ybulkakzc
