/-
  THE LAW OF EXPIRING (seat b1835a): expire is called; the old are counted.
-/
import Derived.Test.YbulkakzcLa3
import Derived.BigQuiet
namespace Go.Proofs.Ybulkakzc
open Go.RowKit
set_option linter.unusedSimpArgs false

theorem Lead.of {p q : Nat → Bool} {n k : Nat} (h : Lead p n k) (e : ∀ j, j < n → q j = p j) : Lead q n k := ⟨h.le, fun j hj => (e j (Nat.lt_of_lt_of_le hj h.le)).trans (h.all j hj), fun hlt => (e k hlt).trans (h.stop hlt)⟩

set_option maxRecDepth 100000 in
set_option maxHeartbeats 8000000 in
theorem seg39 (w0 w : World) (ts mpb now pre : Int) (fa : Option Addr) (fn fc : Nat) (ma : Option Addr) (mn mc : Nat) (mp tmo : Int) (decb rb tb fb : Nat) (gb pm am np lb : Nat) (lv : Value) (F : Nat → Int) (M : Nat → Mg) (al pl : List En) (fl : List Fq) (ms : List Ms) (R : Ending → World → Prop) (v18 v20 v21 v23 v24 v25 v26 v29 v30 v31 v32 v33 v34 v35 v36 v37 v38 v39 v40 v41 v42 v43 v44 v45 v46 v47 v48 v49 v50 v51 v52 v53 v54 v55 v56 v57 v58 v59 v60 v61 v62 v63 v64 v65 v66 v67 v68 v69 v70 v71 v72 v73 v74 v75 v76 v77 v78 v79 v80 v81 v82 v83 v84 v85 v86 v87 v88 v89 v90 v91 v92 v93 v94 v95 v96 v97 v98 v99 v100 v101 v102 v103 v104 v105 v106 v107 v108 v109 v110 v111 v112 v113 v114 v115 v116 v117 v118 v119 v120 v121 v122 v123 v124 v125 v126 v127 v128 v129 v130 v131 v132 v133 v134 v135 v136 v137 v138 v139 v140 v141 v142 v143 v144 v145 v146 v147 v148 v149 v150 v151 v152 v153 v154 v155 v156 v157 v158 v159 v160 v161 v162 v163 v164 v165 v166 v167 v168 v169 v170 v171 v172 v173 v174 v175 v176 v177 v178 v179 v180 v181 v182 v183 v184 v185 v186 v187 v188 v189 v190 v191 v192 v193 v194 v195 v196 v197 v198 v199 v200 v201 v202 v203 v204 v205 v206 v207 v208 v209 v210 v211 v212 v213 v214 v215 v216 v217 v218 v219 v220 v221 v222 v223 v224 v225 v226 v227 v228 v229 v230 v231 v232 v233 v234 v235 v236 v237 v238 v239 v240 v241 v242 v243 v244 v245 v246 v247 v248 v249 v250 v251 v252 v253 v254 v255 v256 v257 v258 v259 v260 v261 v262 v263 v264 v265 v266 v267 v268 v269 v270 v271 v272 v273 v274 v275 v276 v277 v278 v279 v280 v281 v282 v283 v284 v285 v286 v287 v288 v289 v290 v291 v292 v293 v294 v295 v296 v297 v298 v299 v300 v301 v302 v303 v304 v305 v306 v307 v308 v309 v310 v311 v312 v313 v314 v315 v316 v317 v318 v319 v320 v321 v322 v323 v324 v325 v326 v327 v328 v329 v330 v331 v332 v333 v334 v335 v336 v337 v338 v339 v340 v341 v342 v343 v344 v345 v346 v347 v348 v349 v350 v351 v352 v353 v354 v355 v356 v357 v358 v359 v360 v361 v362 v363 v364 v365 v366 v367 v368 v369 v370 v371 v372 v373 v374 v375 v376 v377 v378 v379 v380 v381 v382 v383 v384 v385 v386 v387 v388 v389 v390 v391 v392 v393 v394 v395 v396 v397 v398 v399 v400 v401 v402 v403 v404 v405 v406 v407 v408 v409 v410 v411 v412 v413 v414 v415 v416 v417 v418 v419 v420 v421 v422 v423 v424 v425 v426 v427 v428 v429 v430 v431 v432 v433 : Value)
    (hnp : np ≤ 3) (hfl : fl.length = fn) (hml : ms.length = mn) (hfn : fn ≤ 1024) (hmn : mn ≤ 1024) (hFb : ∀ i, i < fn → 0 ≤ F i ∧ F i < 256) (hMb : ∀ i, i < mn → (M i).Ok) (hn0 : 0 ≤ now) (hn1 : now < 65536) (hmp0 : 1 ≤ mp) (hmp : mp ≤ 4)
    (hL : L3 w0 w rb pm am fb gb tmo mp now fn mn F M al pl fl ms lv lb (preL np))
    (h44 : ∀ (v18 v20 v21 v23 v24 v25 v26 v28 v29 v33 v34 v35 v36 v37 v38 v39 v40 v41 v42 v43 v44 v45 v46 v47 v48 v49 v50 v51 v52 v53 v54 v55 v56 v57 v58 v59 v60 v61 v62 v63 v64 v65 v66 v67 v68 v69 v70 v71 v72 v73 v74 v75 v76 v77 v78 v79 v80 v81 v82 v83 v84 v85 v86 v87 v88 v89 v90 v91 v92 v93 v94 v95 v96 v97 v98 v99 v100 v101 v102 v103 v104 v105 v106 v107 v108 v109 v110 v111 v112 v113 v114 v115 v116 v117 v118 v119 v120 v121 v122 v123 v124 v125 v126 v127 v128 v129 v130 v131 v132 v133 v134 v135 v136 v137 v138 v139 v140 v141 v142 v143 v144 v145 v146 v147 v148 v149 v150 v151 v152 v153 v154 v155 v156 v157 v158 v159 v160 v161 v162 v163 v164 v165 v166 v167 v168 v169 v170 v171 v172 v173 v174 v175 v176 v177 v178 v179 v180 v181 v182 v183 v184 v185 v186 v187 v188 v189 v190 v191 v192 v193 v194 v195 v196 v197 v198 v199 v200 v201 v202 v203 v204 v205 v206 v207 v208 v209 v210 v211 v212 v213 v214 v215 v216 v217 v218 v219 v220 v221 v222 v223 v224 v225 v226 v227 v228 v229 v230 v231 v232 v233 v234 v235 v236 v237 v238 v239 v240 v241 v242 v243 v244 v245 v246 v247 v248 v249 v250 v251 v252 v253 v254 v255 v256 v257 v258 v259 v260 v261 v262 v263 v264 v265 v266 v267 v268 v269 v270 v271 v272 v273 v274 v275 v276 v277 v278 v279 v280 v281 v282 v283 v284 v285 v286 v287 v288 v289 v290 v291 v292 v293 v294 v295 v296 v297 v298 v299 v300 v301 v302 v303 v304 v305 v306 v307 v308 v309 v310 v311 v312 v313 v314 v315 v316 v317 v318 v319 v320 v321 v322 v323 v324 v325 v326 v327 v328 v329 v330 v331 v332 v333 v334 v335 v336 v337 v338 v339 v340 v341 v342 v343 v344 v345 v346 v347 v348 v349 v350 v351 v352 v353 v354 v355 v356 v357 v358 v359 v360 v361 v362 v363 v364 v365 v366 v367 v368 v369 v370 v371 v372 v373 v374 v375 v376 v377 v378 v379 v380 v381 v382 v383 v384 v385 v386 v387 v388 v389 v390 v391 v392 v393 v394 v395 v396 v397 v398 v399 v400 v401 v402 v403 v404 v405 v406 v407 v408 v409 v410 v411 v412 v413 v414 v415 v416 v417 v418 v419 v420 v421 v422 v423 v424 v425 v426 v427 v428 v429 v430 v431 v432 v433 : Value) (w' : World) (k1 k ob : Nat) (ov : Value) (pk : Int) (al' pl' : List En) (fl' : List Fq), Same w0 w' → (∃ wE B, E2 wE w' B rb pm am tmo mp now pk al' pl' (ms.drop k) fl' ov ob (preL np ++ (ms.take k).map line)) → ((fl'.length : Int), pk) = ev (16 * lim mp) k (((fn - k1 : Nat) : Int), 0) → w'.rowIs gb 2 mn (fun j => .int .i64 (if j < mn then acc (md M) (j + 1) else 0)) → Lead (fun j => old (rto tmo) now (acc (md M) (j + 1))) mn k → k1 ≤ fn → Code.wp Yba.prog (fromR 44 (Yba.f3.body.getD .skip)) (bodyPost Yba.prog Yba.f3 R) ⟨#[.int .i64 ts, .int .u8 mpb, .int .u16 now, .slice fa fn fc, .slice ma mn mc, .int .u8 pre, undef, undef, undef, undef, undef, undef, .bool false, .int .i64 mp, P2 decb 0, .int .i64 (rto tmo), P2 rb 0, P2 tb 0, v18, .slice (some ⟨fb, 0, none⟩) fn fn, v20, v21, .slice (some ⟨gb, 0, none⟩) mn mn, v23, v24, v25, v26, .int .i64 (np : Int), v28, v29, ov, .int .i64 now, .int .i64 (k1 : Int), v33, v34, v35, v36, v37, v38, v39, v40, v41, v42, v43, v44, v45, v46, v47, v48, v49, v50, v51, v52, v53, v54, v55, v56, v57, v58, v59, v60, v61, v62, v63, v64, v65, v66, v67, v68, v69, v70, v71, v72, v73, v74, v75, v76, v77, v78, v79, v80, v81, v82, v83, v84, v85, v86, v87, v88, v89, v90, v91, v92, v93, v94, v95, v96, v97, v98, v99, v100, v101, v102, v103, v104, v105, v106, v107, v108, v109, v110, v111, v112, v113, v114, v115, v116, v117, v118, v119, v120, v121, v122, v123, v124, v125, v126, v127, v128, v129, v130, v131, v132, v133, v134, v135, v136, v137, v138, v139, v140, v141, v142, v143, v144, v145, v146, v147, v148, v149, v150, v151, v152, v153, v154, v155, v156, v157, v158, v159, v160, v161, v162, v163, v164, v165, v166, v167, v168, v169, v170, v171, v172, v173, v174, v175, v176, v177, v178, v179, v180, v181, v182, v183, v184, v185, v186, v187, v188, v189, v190, v191, v192, v193, v194, v195, v196, v197, v198, v199, v200, v201, v202, v203, v204, v205, v206, v207, v208, v209, v210, v211, v212, v213, v214, v215, v216, v217, v218, v219, v220, v221, v222, v223, v224, v225, v226, v227, v228, v229, v230, v231, v232, v233, v234, v235, v236, v237, v238, v239, v240, v241, v242, v243, v244, v245, v246, v247, v248, v249, v250, v251, v252, v253, v254, v255, v256, v257, v258, v259, v260, v261, v262, v263, v264, v265, v266, v267, v268, v269, v270, v271, v272, v273, v274, v275, v276, v277, v278, v279, v280, v281, v282, v283, v284, v285, v286, v287, v288, v289, v290, v291, v292, v293, v294, v295, v296, v297, v298, v299, v300, v301, v302, v303, v304, v305, v306, v307, v308, v309, v310, v311, v312, v313, v314, v315, v316, v317, v318, v319, v320, v321, v322, v323, v324, v325, v326, v327, v328, v329, v330, v331, v332, v333, v334, v335, v336, v337, v338, v339, v340, v341, v342, v343, v344, v345, v346, v347, v348, v349, v350, v351, v352, v353, v354, v355, v356, v357, v358, v359, v360, v361, v362, v363, v364, v365, v366, v367, v368, v369, v370, v371, v372, v373, v374, v375, v376, v377, v378, v379, v380, v381, v382, v383, v384, v385, v386, v387, v388, v389, v390, v391, v392, v393, v394, v395, v396, v397, v398, v399, v400, v401, v402, v403, v404, v405, v406, v407, v408, v409, v410, v411, v412, v413, v414, v415, v416, v417, v418, v419, v420, v421, v422, v423, v424, v425, v426, v427, v428, v429, v430, v431, v432, v433], []⟩ w') :
    Code.wp Yba.prog (fromR 39 (Yba.f3.body.getD .skip)) (bodyPost Yba.prog Yba.f3 R) ⟨#[.int .i64 ts, .int .u8 mpb, .int .u16 now, .slice fa fn fc, .slice ma mn mc, .int .u8 pre, undef, undef, undef, undef, undef, undef, .bool false, .int .i64 mp, P2 decb 0, .int .i64 (rto tmo), P2 rb 0, P2 tb 0, v18, .slice (some ⟨fb, 0, none⟩) fn fn, v20, v21, .slice (some ⟨gb, 0, none⟩) mn mn, v23, v24, v25, v26, .int .i64 (np : Int), lv, v29, v30, v31, v32, v33, v34, v35, v36, v37, v38, v39, v40, v41, v42, v43, v44, v45, v46, v47, v48, v49, v50, v51, v52, v53, v54, v55, v56, v57, v58, v59, v60, v61, v62, v63, v64, v65, v66, v67, v68, v69, v70, v71, v72, v73, v74, v75, v76, v77, v78, v79, v80, v81, v82, v83, v84, v85, v86, v87, v88, v89, v90, v91, v92, v93, v94, v95, v96, v97, v98, v99, v100, v101, v102, v103, v104, v105, v106, v107, v108, v109, v110, v111, v112, v113, v114, v115, v116, v117, v118, v119, v120, v121, v122, v123, v124, v125, v126, v127, v128, v129, v130, v131, v132, v133, v134, v135, v136, v137, v138, v139, v140, v141, v142, v143, v144, v145, v146, v147, v148, v149, v150, v151, v152, v153, v154, v155, v156, v157, v158, v159, v160, v161, v162, v163, v164, v165, v166, v167, v168, v169, v170, v171, v172, v173, v174, v175, v176, v177, v178, v179, v180, v181, v182, v183, v184, v185, v186, v187, v188, v189, v190, v191, v192, v193, v194, v195, v196, v197, v198, v199, v200, v201, v202, v203, v204, v205, v206, v207, v208, v209, v210, v211, v212, v213, v214, v215, v216, v217, v218, v219, v220, v221, v222, v223, v224, v225, v226, v227, v228, v229, v230, v231, v232, v233, v234, v235, v236, v237, v238, v239, v240, v241, v242, v243, v244, v245, v246, v247, v248, v249, v250, v251, v252, v253, v254, v255, v256, v257, v258, v259, v260, v261, v262, v263, v264, v265, v266, v267, v268, v269, v270, v271, v272, v273, v274, v275, v276, v277, v278, v279, v280, v281, v282, v283, v284, v285, v286, v287, v288, v289, v290, v291, v292, v293, v294, v295, v296, v297, v298, v299, v300, v301, v302, v303, v304, v305, v306, v307, v308, v309, v310, v311, v312, v313, v314, v315, v316, v317, v318, v319, v320, v321, v322, v323, v324, v325, v326, v327, v328, v329, v330, v331, v332, v333, v334, v335, v336, v337, v338, v339, v340, v341, v342, v343, v344, v345, v346, v347, v348, v349, v350, v351, v352, v353, v354, v355, v356, v357, v358, v359, v360, v361, v362, v363, v364, v365, v366, v367, v368, v369, v370, v371, v372, v373, v374, v375, v376, v377, v378, v379, v380, v381, v382, v383, v384, v385, v386, v387, v388, v389, v390, v391, v392, v393, v394, v395, v396, v397, v398, v399, v400, v401, v402, v403, v404, v405, v406, v407, v408, v409, v410, v411, v412, v413, v414, v415, v416, v417, v418, v419, v420, v421, v422, v423, v424, v425, v426, v427, v428, v429, v430, v431, v432, v433], []⟩ w := by
  dsimp only at h44 ⊢
  conv => arg 2; whnf
  unfold P2
  have hdb : ∀ j, j < mn → 0 ≤ md M j ∧ md M j < 256 := fun j hj => ⟨(hMb j hj).d0, (hMb j hj).d1⟩
  have hz : ∀ x ∈ fl, x.aw = 0 ∧ 0 ≤ x.ae ∧ x.ae ≤ 300000 := by
    intro x hx
    obtain ⟨j, hj, rfl⟩ := List.getElem_of_mem hx
    obtain ⟨h1, h2⟩ := hL.ats j _ (List.getElem?_eq_getElem hj)
    have h3 := acc_bound hFb (j + 1) (by omega)
    rw [h2]
    exact ⟨h1, h3.1, by omega⟩
  have hmz : ∀ x ∈ ms, 0 ≤ x.fe ∧ x.fe ≤ 300000 ∧ 0 ≤ x.cost ∧ x.cost ≤ 1000 := by
    intro x hx
    obtain ⟨j, hj, rfl⟩ := List.getElem_of_mem hx
    obtain ⟨h1, h2, _, _⟩ := hL.mats j _ (List.getElem?_eq_getElem hj)
    have h3 := acc_bound hdb (j + 1) (by omega)
    have h4 := hMb j (by omega)
    have h5 := h4.c0
    have h6 := h4.c1
    rw [h1, h2]
    exact ⟨h3.1, by omega, h5, by omega⟩
  have hE := hL.books (by omega)
  have hex := expire_any w rb pm am tmo mp now 0 pl al ms fl lv lb (preL np) _ hE hz hmz hn0 (by omega) (by omega) (by omega) (by omega) (by rw [preL_length]; omega)
  have HK : Hid _ := h44
  have HL : Hid _ := hL
  have HFB : Hid _ := hFb
  have HDB : Hid _ := hdb
  clear h44 hL hFb hMb hdb hz hmz hE
  unfold P2 at hex
  go_wp2_with fail
  refine hex.mono ?_
  rintro e w1 ⟨k1, k, pk', al', pl', fl', ov, ob, rfl, hk1, hk, hev, hE⟩
  dsimp only
  clear hex
  obtain ⟨hS, hr1, hr2⟩ := HL.out.keep hE.fx
  have hk1' : Lead (fun j => old (rto tmo) now (acc F (j + 1))) fn k1 := by
    rw [hfl] at hk1
    refine hk1.of fun j hj => ?_
    have hj' : j < fl.length := by omega
    have := (HL.out.ats j _ (List.getElem?_eq_getElem hj')).2
    simp [List.getD, hj', this]
  have hk' : Lead (fun j => old (rto tmo) now (acc (md M) (j + 1))) mn k := by
    rw [hml] at hk
    refine hk.of fun j hj => ?_
    have hj' : j < ms.length := by omega
    have := (HL.out.mats j _ (List.getElem?_eq_getElem hj')).1
    simp [List.getD, hj', this]
  rw [hfl] at hev
  have HK1 : Hid _ := hk1'
  have HK2 : Hid _ := hk'
  have HEV : Hid _ := hev
  have HE : Hid _ := hE
  have HS : Hid _ := hS
  have HR1 : Hid (w1.rowIs fb 2 fn (fun j => .int .i64 (if j < fn then acc F (j + 1) else 0))) := hr1
  have HR2 : Hid (w1.rowIs gb 2 mn (fun j => .int .i64 (if j < mn then acc (md M) (j + 1) else 0))) := hr2
  clear hk1 hk hk1' hk' hev hE hS hr1 hr2 HL
  have hwn : IntKind.i64.wrap now = now := by rw [IntKind.wrap_i64]; omega
  go_wp2_with fail
  go_loopg [32] fn (fun g t wr => ∃ j : Nat, j ≤ fn ∧ g = fn - j ∧ t = .int .i64 j ∧ wr = w1 ∧ (∀ i, i < j → old (rto tmo) now (acc F (i + 1)) = true))
  case atStart => exact ⟨0, Nat.zero_le _, rfl, rfl, rfl, fun i hi => by omega⟩
  case round =>
    obtain ⟨j, hj, hg, rfl, hwr, holds⟩ := hrel
    rw [hwr]
    clear hwr
    have HO : Hid _ := holds
    clear holds
    by_cases hjn : j < fn
    · have c1 := HR1.out.cell (i := j) hjn
      rw [if_pos hjn] at c1
      have hab := acc_bound HFB.out (j + 1) (by omega)
      have hcall := old_any w1 now (acc F (j + 1)) (rto tmo) (by omega) (by omega)
      go_wp2_with fail
      refine hcall.mono ?_
      rintro e w5 ⟨rfl, rfl⟩
      dsimp only
      clear hcall
      go_upto_if 218 with fail
      by_cases hold : rto tmo < (now - acc F (j + 1)) * 1000000000
      · have e1 : decide (rto tmo < (now - acc F (j + 1)) * 1000000000) = true := by simpa using hold
        simp only [e1]
        have HOL : Hid (old (rto tmo) now (acc F (j + 1)) = true) := e1
        clear e1 hold
        have hw9 : IntKind.i64.wrap ((j : Int) + 1) = (j : Int) + 1 := by rw [IntKind.wrap_i64]; omega
        go_wp2
        go_roundg (fn - (j + 1))
        case measure => omega
        case rel =>
          refine ⟨j + 1, by omega, rfl, by simp, rfl, fun i hi => ?_⟩
          rcases Nat.lt_or_eq_of_le (Nat.le_of_lt_succ hi) with h1 | h1
          · exact HO.out i h1
          · rw [h1]
            exact HOL.out
      · have e1 : decide (rto tmo < (now - acc F (j + 1)) * 1000000000) = false := by simpa using hold
        simp only [e1]
        have HOL : Hid (old (rto tmo) now (acc F (j + 1)) = false) := e1
        clear e1 hold
        have hjk : j = k1 := Lead.unique ⟨hj, HO.out, fun _ => HOL.out⟩ HK1.out
        subst hjk
        refine wp_cond_false (by rfl) (wp_exit ?_)
        simp only [Exit.then, Exit.inBlock, if_true]
        apply_assumption
        exact HK.out _ _ _ _ _ _ _ _ _ _ _ _ _ _ _ _ _ _ _ _ _ _ _ _ _ _ _ _ _ _ _ _ _ _ _ _ _ _ _ _ _ _ _ _ _ _ _ _ _ _ _ _ _ _ _ _ _ _ _ _ _ _ _ _ _ _ _ _ _ _ _ _ _ _ _ _ _ _ _ _ _ _ _ _ _ _ _ _ _ _ _ _ _ _ _ _ _ _ _ _ _ _ _ _ _ _ _ _ _ _ _ _ _ _ _ _ _ _ _ _ _ _ _ _ _ _ _ _ _ _ _ _ _ _ _ _ _ _ _ _ _ _ _ _ _ _ _ _ _ _ _ _ _ _ _ _ _ _ _ _ _ _ _ _ _ _ _ _ _ _ _ _ _ _ _ _ _ _ _ _ _ _ _ _ _ _ _ _ _ _ _ _ _ _ _ _ _ _ _ _ _ _ _ _ _ _ _ _ _ _ _ _ _ _ _ _ _ _ _ _ _ _ _ _ _ _ _ _ _ _ _ _ _ _ _ _ _ _ _ _ _ _ _ _ _ _ _ _ _ _ _ _ _ _ _ _ _ _ _ _ _ _ _ _ _ _ _ _ _ _ _ _ _ _ _ _ _ _ _ _ _ _ _ _ _ _ _ _ _ _ _ _ _ _ _ _ _ _ _ _ _ _ _ _ _ _ _ _ _ _ _ _ _ _ _ _ _ _ _ _ _ _ _ _ _ _ _ _ _ _ _ _ _ _ _ _ _ _ _ _ _ _ _ _ _ _ _ _ _ _ _ _ _ _ _ _ _ _ _ _ _ _ _ _ _ _ _ _ _ _ _ _ _ _ _ _ _ _ _ _ _ _ _ _ _ _ _ _ _ _ _ _ _ _ _ _ _ _ _ _ _ _ _ _ _ _ _ _ _ _ _ j k ob ov pk' al' pl' fl' HS.out ⟨_, _, HE.out⟩ HEV.out HR2.out HK2.out hj
    · have hjk : j = k1 := Lead.unique ⟨hj, HO.out, fun h => by omega⟩ HK1.out
      subst hjk
      go_upto_if 218 with fail
      refine wp_cond_false (by rfl) (wp_exit ?_)
      simp only [Exit.then, Exit.inBlock, if_true]
      apply_assumption
      exact HK.out _ _ _ _ _ _ _ _ _ _ _ _ _ _ _ _ _ _ _ _ _ _ _ _ _ _ _ _ _ _ _ _ _ _ _ _ _ _ _ _ _ _ _ _ _ _ _ _ _ _ _ _ _ _ _ _ _ _ _ _ _ _ _ _ _ _ _ _ _ _ _ _ _ _ _ _ _ _ _ _ _ _ _ _ _ _ _ _ _ _ _ _ _ _ _ _ _ _ _ _ _ _ _ _ _ _ _ _ _ _ _ _ _ _ _ _ _ _ _ _ _ _ _ _ _ _ _ _ _ _ _ _ _ _ _ _ _ _ _ _ _ _ _ _ _ _ _ _ _ _ _ _ _ _ _ _ _ _ _ _ _ _ _ _ _ _ _ _ _ _ _ _ _ _ _ _ _ _ _ _ _ _ _ _ _ _ _ _ _ _ _ _ _ _ _ _ _ _ _ _ _ _ _ _ _ _ _ _ _ _ _ _ _ _ _ _ _ _ _ _ _ _ _ _ _ _ _ _ _ _ _ _ _ _ _ _ _ _ _ _ _ _ _ _ _ _ _ _ _ _ _ _ _ _ _ _ _ _ _ _ _ _ _ _ _ _ _ _ _ _ _ _ _ _ _ _ _ _ _ _ _ _ _ _ _ _ _ _ _ _ _ _ _ _ _ _ _ _ _ _ _ _ _ _ _ _ _ _ _ _ _ _ _ _ _ _ _ _ _ _ _ _ _ _ _ _ _ _ _ _ _ _ _ _ _ _ _ _ _ _ _ _ _ _ _ _ _ _ _ _ _ _ _ _ _ _ _ _ _ _ _ _ _ _ _ _ _ _ _ _ _ _ _ _ _ _ _ _ _ _ _ _ _ _ _ _ _ _ _ _ _ _ _ _ _ _ _ _ _ _ _ _ _ _ _ _ _ _ _ _ _ j k ob ov pk' al' pl' fl' HS.out ⟨_, _, HE.out⟩ HEV.out HR2.out HK2.out hj
end Go.Proofs.Ybulkakzc
