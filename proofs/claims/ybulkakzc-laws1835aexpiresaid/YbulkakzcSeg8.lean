/-
  THE LAW OF EXPIRING (seat b1835a): its beginning, on.
-/
import Derived.Test.YbulkakzcBody2
import Derived.Test.YbulkakzcLa1
import Derived.Carry
namespace Go.Proofs.Ybulkakzc
open Go.RowKit
set_option linter.unusedSimpArgs false
theorem info2e : (Yba.prog.info? 2).map (fun i => (i.zero, i.size, i.bytes)) = some (some (.int .i64 0), 1, 8) := by kernel_rfl

/-- The clock of a new reassembler is set. -/
theorem RS.now {w : World} {rb pm am : Nat} {C : Nat → Value} {tmo mp : Int} (h : RS w rb pm am C tmo mp 0 0 0 0 [] [] [] []) (now : Int) :
    ∃ C', RS (((w.setCell ⟨rb, 7, none⟩ (.int .u64 0)).setCell ⟨rb, 8, none⟩ (.int .i64 now)).setCell ⟨rb, 9, none⟩ (.pointer none)) rb pm am C' tmo mp 0 now 0 0 [] [] [] [] := by
  obtain ⟨cp, hp⟩ := h.pmap
  obtain ⟨ca, ha⟩ := h.amap
  have hpr : pm ≠ rb := ne_map_row hp h.row
  have har : am ≠ rb := ne_map_row ha h.row
  have hk : ∀ j, j ≠ rb → (((w.setCell ⟨rb, 7, none⟩ (.int .u64 0)).setCell ⟨rb, 8, none⟩ (.int .i64 now)).setCell ⟨rb, 9, none⟩ (.pointer none)).heap[j]? = w.heap[j]? := fun j hj => by
    rw [heap_set_other _ _ _ hj, heap_set_other _ _ _ hj, heap_set_other _ _ _ hj]
  have e : ∀ j, j ≠ 7 → j ≠ 8 → j ≠ 9 → up1 (up1 (up1 C 7 (.int .u64 0)) 8 (.int .i64 now)) 9 (.pointer none) j = C j := fun j h1 h2 h3 => by
    rw [up1_other _ _ h3, up1_other _ _ h2, up1_other _ _ h1]
  have r := h.rc
  refine ⟨_, row_up (row_up (row_up h.row 7 _) 8 _) 9 _, ⟨(e 0 (by omega) (by omega) (by omega)).trans r.c0, (e 1 (by omega) (by omega) (by omega)).trans r.c1, (e 2 (by omega) (by omega) (by omega)).trans r.c2, (e 3 (by omega) (by omega) (by omega)).trans r.c3, (e 4 (by omega) (by omega) (by omega)).trans r.c4, (e 5 (by omega) (by omega) (by omega)).trans r.c5, (e 6 (by omega) (by omega) (by omega)).trans r.c6, rfl, rfl, rfl, (e 10 (by omega) (by omega) (by omega)).trans r.c10, (e 16 (by omega) (by omega) (by omega)).trans r.c16, (e 17 (by omega) (by omega) (by omega)).trans r.c17, (e 25 (by omega) (by omega) (by omega)).trans r.c25⟩, ⟨cp, (hk pm hpr).trans hp⟩, ⟨ca, (hk am har).trans ha⟩, ?_, ?_, h.dj, h.mm⟩
  · exact h.qs.congr (fun b hb => by simp [blks] at hb) (e 11 (by omega) (by omega) (by omega)) (e 12 (by omega) (by omega) (by omega)) (e 15 (by omega) (by omega) (by omega))
  · exact h.qf.congr (fun b hb => by simp [blks] at hb) (e 18 (by omega) (by omega) (by omega)) (e 19 (by omega) (by omega) (by omega)) (e 22 (by omega) (by omega) (by omega))

set_option maxRecDepth 100000 in
set_option maxHeartbeats 8000000 in
theorem seg8 (w0 w : World) (ts mpb now pre : Int) (fa : Option Addr) (fn fc : Nat) (ma : Option Addr) (mn mc : Nat) (mp tmo : Int) (decb : Nat) (F : Nat → Int) (R : Ending → World → Prop) (v16 v17 v18 v19 v20 v21 v22 v23 v24 v25 v26 v27 v28 v29 v30 v31 v32 v33 v34 v35 v36 v37 v38 v39 v40 v41 v42 v43 v44 v45 v46 v47 v48 v49 v50 v51 v52 v53 v54 v55 v56 v57 v58 v59 v60 v61 v62 v63 v64 v65 v66 v67 v68 v69 v70 v71 v72 v73 v74 v75 v76 v77 v78 v79 v80 v81 v82 v83 v84 v85 v86 v87 v88 v89 v90 v91 v92 v93 v94 v95 v96 v97 v98 v99 v100 v101 v102 v103 v104 v105 v106 v107 v108 v109 v110 v111 v112 v113 v114 v115 v116 v117 v118 v119 v120 v121 v122 v123 v124 v125 v126 v127 v128 v129 v130 v131 v132 v133 v134 v135 v136 v137 v138 v139 v140 v141 v142 v143 v144 v145 v146 v147 v148 v149 v150 v151 v152 v153 v154 v155 v156 v157 v158 v159 v160 v161 v162 v163 v164 v165 v166 v167 v168 v169 v170 v171 v172 v173 v174 v175 v176 v177 v178 v179 v180 v181 v182 v183 v184 v185 v186 v187 v188 v189 v190 v191 v192 v193 v194 v195 v196 v197 v198 v199 v200 v201 v202 v203 v204 v205 v206 v207 v208 v209 v210 v211 v212 v213 v214 v215 v216 v217 v218 v219 v220 v221 v222 v223 v224 v225 v226 v227 v228 v229 v230 v231 v232 v233 v234 v235 v236 v237 v238 v239 v240 v241 v242 v243 v244 v245 v246 v247 v248 v249 v250 v251 v252 v253 v254 v255 v256 v257 v258 v259 v260 v261 v262 v263 v264 v265 v266 v267 v268 v269 v270 v271 v272 v273 v274 v275 v276 v277 v278 v279 v280 v281 v282 v283 v284 v285 v286 v287 v288 v289 v290 v291 v292 v293 v294 v295 v296 v297 v298 v299 v300 v301 v302 v303 v304 v305 v306 v307 v308 v309 v310 v311 v312 v313 v314 v315 v316 v317 v318 v319 v320 v321 v322 v323 v324 v325 v326 v327 v328 v329 v330 v331 v332 v333 v334 v335 v336 v337 v338 v339 v340 v341 v342 v343 v344 v345 v346 v347 v348 v349 v350 v351 v352 v353 v354 v355 v356 v357 v358 v359 v360 v361 v362 v363 v364 v365 v366 v367 v368 v369 v370 v371 v372 v373 v374 v375 v376 v377 v378 v379 v380 v381 v382 v383 v384 v385 v386 v387 v388 v389 v390 v391 v392 v393 v394 v395 v396 v397 v398 v399 v400 v401 v402 v403 v404 v405 v406 v407 v408 v409 v410 v411 v412 v413 v414 v415 v416 v417 v418 v419 v420 v421 v422 v423 v424 v425 v426 v427 v428 v429 v430 v431 v432 v433 : Value)
    (hfn : fn ≤ 1024) (hn0 : 0 ≤ now) (hn1 : now < 65536) (hS : Same w0 w) (hd : w.heap[decb]? = some (.cells #[.int .i64 0, .slice none 0 0, .bool false, .int .i64 0, .int .i64 tmo, .int .i64 mp, .int .i64 0] 28 (0, 0)))
    (h13 : ∀ (rb pm am tb fb : Nat) (v20 v21 v22 v23 v24 v25 v26 v27 v28 v29 v30 v31 v32 v33 v34 v35 v36 v37 v38 v39 v40 v41 v42 v43 v44 v45 v46 v47 v48 v49 v50 v51 v52 v53 v54 v55 v56 v57 v58 v59 v60 v61 v62 v63 v64 v65 v66 v67 v68 v69 v70 v71 v72 v73 v74 v75 v76 v77 v78 v79 v80 v81 v82 v83 v84 v85 v86 v87 v88 v89 v90 v91 v92 v93 v94 v95 v96 v97 v98 v99 v100 v101 v102 v103 v104 v105 v106 v107 v108 v109 v110 v111 v112 v113 v114 v115 v116 v117 v118 v119 v120 v121 v122 v123 v124 v125 v126 v127 v128 v129 v130 v131 v132 v133 v134 v135 v136 v137 v138 v139 v140 v141 v142 v143 v144 v145 v146 v147 v148 v149 v150 v151 v152 v153 v154 v155 v156 v157 v158 v159 v160 v161 v162 v163 v164 v165 v166 v167 v168 v169 v170 v171 v172 v173 v174 v175 v176 v177 v178 v179 v180 v181 v182 v183 v184 v185 v186 v187 v188 v189 v190 v191 v192 v193 v194 v195 v196 v197 v198 v199 v200 v201 v202 v203 v204 v205 v206 v207 v208 v209 v210 v211 v212 v213 v214 v215 v216 v217 v218 v219 v220 v221 v222 v223 v224 v225 v226 v227 v228 v229 v230 v231 v232 v233 v234 v235 v236 v237 v238 v239 v240 v241 v242 v243 v244 v245 v246 v247 v248 v249 v250 v251 v252 v253 v254 v255 v256 v257 v258 v259 v260 v261 v262 v263 v264 v265 v266 v267 v268 v269 v270 v271 v272 v273 v274 v275 v276 v277 v278 v279 v280 v281 v282 v283 v284 v285 v286 v287 v288 v289 v290 v291 v292 v293 v294 v295 v296 v297 v298 v299 v300 v301 v302 v303 v304 v305 v306 v307 v308 v309 v310 v311 v312 v313 v314 v315 v316 v317 v318 v319 v320 v321 v322 v323 v324 v325 v326 v327 v328 v329 v330 v331 v332 v333 v334 v335 v336 v337 v338 v339 v340 v341 v342 v343 v344 v345 v346 v347 v348 v349 v350 v351 v352 v353 v354 v355 v356 v357 v358 v359 v360 v361 v362 v363 v364 v365 v366 v367 v368 v369 v370 v371 v372 v373 v374 v375 v376 v377 v378 v379 v380 v381 v382 v383 v384 v385 v386 v387 v388 v389 v390 v391 v392 v393 v394 v395 v396 v397 v398 v399 v400 v401 v402 v403 v404 v405 v406 v407 v408 v409 v410 v411 v412 v413 v414 v415 v416 v417 v418 v419 v420 v421 v422 v423 v424 v425 v426 v427 v428 v429 v430 v431 v432 v433 : Value) (w' : World), w0.heap.size ≤ tb → L1 w0 w' rb pm am tb fb tmo mp now fn F 0 [] [] → Code.wp Yba.prog (fromR 13 (Yba.f3.body.getD .skip)) (bodyPost Yba.prog Yba.f3 R) ⟨#[.int .i64 ts, .int .u8 mpb, .int .u16 now, .slice fa fn fc, .slice ma mn mc, .int .u8 pre, undef, undef, undef, undef, undef, undef, .bool false, .int .i64 mp, P2 decb 0, .int .i64 (rto tmo), P2 rb 0, P2 tb 0, .int .i64 0, .slice (some ⟨fb, 0, none⟩) fn fn, v20, v21, v22, v23, v24, v25, v26, v27, v28, v29, v30, v31, v32, v33, v34, v35, v36, v37, v38, v39, v40, v41, v42, v43, v44, v45, v46, v47, v48, v49, v50, v51, v52, v53, v54, v55, v56, v57, v58, v59, v60, v61, v62, v63, v64, v65, v66, v67, v68, v69, v70, v71, v72, v73, v74, v75, v76, v77, v78, v79, v80, v81, v82, v83, v84, v85, v86, v87, v88, v89, v90, v91, v92, v93, v94, v95, v96, v97, v98, v99, v100, v101, v102, v103, v104, v105, v106, v107, v108, v109, v110, v111, v112, v113, v114, v115, v116, v117, v118, v119, v120, v121, v122, v123, v124, v125, v126, v127, v128, v129, v130, v131, v132, v133, v134, v135, v136, v137, v138, v139, v140, v141, v142, v143, v144, v145, v146, v147, v148, v149, v150, v151, v152, v153, v154, v155, v156, v157, v158, v159, v160, v161, v162, v163, v164, v165, v166, v167, v168, v169, v170, v171, v172, v173, v174, v175, v176, v177, v178, v179, v180, v181, v182, v183, v184, v185, v186, v187, v188, v189, v190, v191, v192, v193, v194, v195, v196, v197, v198, v199, v200, v201, v202, v203, v204, v205, v206, v207, v208, v209, v210, v211, v212, v213, v214, v215, v216, v217, v218, v219, v220, v221, v222, v223, v224, v225, v226, v227, v228, v229, v230, v231, v232, v233, v234, v235, v236, v237, v238, v239, v240, v241, v242, v243, v244, v245, v246, v247, v248, v249, v250, v251, v252, v253, v254, v255, v256, v257, v258, v259, v260, v261, v262, v263, v264, v265, v266, v267, v268, v269, v270, v271, v272, v273, v274, v275, v276, v277, v278, v279, v280, v281, v282, v283, v284, v285, v286, v287, v288, v289, v290, v291, v292, v293, v294, v295, v296, v297, v298, v299, v300, v301, v302, v303, v304, v305, v306, v307, v308, v309, v310, v311, v312, v313, v314, v315, v316, v317, v318, v319, v320, v321, v322, v323, v324, v325, v326, v327, v328, v329, v330, v331, v332, v333, v334, v335, v336, v337, v338, v339, v340, v341, v342, v343, v344, v345, v346, v347, v348, v349, v350, v351, v352, v353, v354, v355, v356, v357, v358, v359, v360, v361, v362, v363, v364, v365, v366, v367, v368, v369, v370, v371, v372, v373, v374, v375, v376, v377, v378, v379, v380, v381, v382, v383, v384, v385, v386, v387, v388, v389, v390, v391, v392, v393, v394, v395, v396, v397, v398, v399, v400, v401, v402, v403, v404, v405, v406, v407, v408, v409, v410, v411, v412, v413, v414, v415, v416, v417, v418, v419, v420, v421, v422, v423, v424, v425, v426, v427, v428, v429, v430, v431, v432, v433], []⟩ w') :
    Code.wp Yba.prog (fromR 8 (Yba.f3.body.getD .skip)) (bodyPost Yba.prog Yba.f3 R) ⟨#[.int .i64 ts, .int .u8 mpb, .int .u16 now, .slice fa fn fc, .slice ma mn mc, .int .u8 pre, undef, undef, undef, undef, undef, undef, .bool false, .int .i64 mp, P2 decb 0, .int .i64 (rto tmo), v16, v17, v18, v19, v20, v21, v22, v23, v24, v25, v26, v27, v28, v29, v30, v31, v32, v33, v34, v35, v36, v37, v38, v39, v40, v41, v42, v43, v44, v45, v46, v47, v48, v49, v50, v51, v52, v53, v54, v55, v56, v57, v58, v59, v60, v61, v62, v63, v64, v65, v66, v67, v68, v69, v70, v71, v72, v73, v74, v75, v76, v77, v78, v79, v80, v81, v82, v83, v84, v85, v86, v87, v88, v89, v90, v91, v92, v93, v94, v95, v96, v97, v98, v99, v100, v101, v102, v103, v104, v105, v106, v107, v108, v109, v110, v111, v112, v113, v114, v115, v116, v117, v118, v119, v120, v121, v122, v123, v124, v125, v126, v127, v128, v129, v130, v131, v132, v133, v134, v135, v136, v137, v138, v139, v140, v141, v142, v143, v144, v145, v146, v147, v148, v149, v150, v151, v152, v153, v154, v155, v156, v157, v158, v159, v160, v161, v162, v163, v164, v165, v166, v167, v168, v169, v170, v171, v172, v173, v174, v175, v176, v177, v178, v179, v180, v181, v182, v183, v184, v185, v186, v187, v188, v189, v190, v191, v192, v193, v194, v195, v196, v197, v198, v199, v200, v201, v202, v203, v204, v205, v206, v207, v208, v209, v210, v211, v212, v213, v214, v215, v216, v217, v218, v219, v220, v221, v222, v223, v224, v225, v226, v227, v228, v229, v230, v231, v232, v233, v234, v235, v236, v237, v238, v239, v240, v241, v242, v243, v244, v245, v246, v247, v248, v249, v250, v251, v252, v253, v254, v255, v256, v257, v258, v259, v260, v261, v262, v263, v264, v265, v266, v267, v268, v269, v270, v271, v272, v273, v274, v275, v276, v277, v278, v279, v280, v281, v282, v283, v284, v285, v286, v287, v288, v289, v290, v291, v292, v293, v294, v295, v296, v297, v298, v299, v300, v301, v302, v303, v304, v305, v306, v307, v308, v309, v310, v311, v312, v313, v314, v315, v316, v317, v318, v319, v320, v321, v322, v323, v324, v325, v326, v327, v328, v329, v330, v331, v332, v333, v334, v335, v336, v337, v338, v339, v340, v341, v342, v343, v344, v345, v346, v347, v348, v349, v350, v351, v352, v353, v354, v355, v356, v357, v358, v359, v360, v361, v362, v363, v364, v365, v366, v367, v368, v369, v370, v371, v372, v373, v374, v375, v376, v377, v378, v379, v380, v381, v382, v383, v384, v385, v386, v387, v388, v389, v390, v391, v392, v393, v394, v395, v396, v397, v398, v399, v400, v401, v402, v403, v404, v405, v406, v407, v408, v409, v410, v411, v412, v413, v414, v415, v416, v417, v418, v419, v420, v421, v422, v423, v424, v425, v426, v427, v428, v429, v430, v431, v432, v433], []⟩ w := by
  dsimp only at h13 ⊢
  conv => arg 2; whnf
  unfold P2
  have d0 := cell_of_heap hd 0 (.int .i64 0) rfl
  have d1 := cell_of_heap hd 1 (.slice none 0 0) rfl
  have d2 := cell_of_heap hd 2 (.bool false) rfl
  have d3 := cell_of_heap hd 3 (.int .i64 0) rfl
  have d4 := cell_of_heap hd 4 (.int .i64 tmo) rfl
  have d5 := cell_of_heap hd 5 (.int .i64 mp) rfl
  have d6 := cell_of_heap hd 6 (.int .i64 0) rfl
  have HK : Hid _ := h13
  have HS : Hid _ := hS
  clear h13 hS hd
  go_wp2_with fail
  refine (new_any w tmo mp).mono ?_
  rintro e w1 ⟨rfl, hN⟩
  dsimp only
  clear d0 d1 d2 d3 d4 d5 d6
  obtain ⟨rb, hrb⟩ : ∃ rb, rb = w.heap.size + 3 := ⟨_, rfl⟩
  rw [← hrb]
  have HN : Hid _ := hN
  have HRB : Hid _ := hrb
  clear hN hrb
  unfold P2
  have hww : IntKind.i64.wrap now = now := by rw [IntKind.wrap_i64]; omega
  have hww2 : IntKind.i64.wrap (now * 1000000000) = now * 1000000000 := by rw [IntKind.wrap_i64]; omega
  go_wp2_with fail
  have hadd := add_any (w1.alloc (.cells (tm 0) 34)) 0 now (by omega) (by omega) (by omega) (by omega)
  rw [Int.zero_add] at hadd
  refine hadd.mono ?_
  clear hadd
  rintro e w2 ⟨rfl, hS2⟩
  dsimp only
  obtain ⟨C, hR⟩ := HN.out.rs
  rw [← HRB.out] at hR
  have hS1 : Same w1 w2 := ((Same.refl w1).alloc _).trans hS2
  have hR2 := hR.same hS1
  have htb : w2.heap[w1.heap.size]? = some (.cells (tm 0) 34 (0, 0)) := (hS2.block _ (by rw [World.size_alloc]; omega)).trans (heap_alloc_new _ _)
  have k7 := (hR2.row.cell (i := 7) (by omega)).trans (congrArg some hR2.rc.c7)
  have k8 := (hR2.row.cell (i := 8) (by omega)).trans (congrArg some hR2.rc.c8)
  have k9 := (hR2.row.cell (i := 9) (by omega)).trans (congrArg some hR2.rc.c9)
  have f7 := hR2.row.frozen 7
  have f8 := hR2.row.frozen 8
  have f9 := hR2.row.frozen 9
  have HR2 : Hid _ := hR2
  have HTB : Hid _ := htb
  have HS1 : Hid _ := hS1
  clear hR hR2 htb hS1 hS2
  unfold tm
  go_upto_region 12 with fail
  obtain ⟨C3, hR3⟩ := HR2.out.now now
  have htr : w1.heap.size ≠ rb := ne_cells_row HTB.out HR2.out.row (by decide)
  have htb3 : (((w2.setCell ⟨rb, 7, none⟩ (.int .u64 0)).setCell ⟨rb, 8, none⟩ (.int .i64 now)).setCell ⟨rb, 9, none⟩ (.pointer none)).heap[w1.heap.size]? = some (.cells (tm 0) 34 (0, 0)) := by
    rw [heap_set_other _ _ _ htr, heap_set_other _ _ _ htr, heap_set_other _ _ _ htr]
    exact HTB.out
  have hsz := HS.out.size
  have hrb := HRB.out
  have hS3 : Same w0 (((w2.setCell ⟨rb, 7, none⟩ (.int .u64 0)).setCell ⟨rb, 8, none⟩ (.int .i64 now)).setCell ⟨rb, 9, none⟩ (.pointer none)) := by
    have hN := HN.out
    have g : Same w0 w2 := (HS.out.trans ⟨hN.os, hN.output, by rw [hN.size]; omega, hN.old⟩).trans HS1.out
    refine ⟨g.os, g.output, by rw [World.size_setCell, World.size_setCell, World.size_setCell]; exact g.size, fun j hj => ?_⟩
    rw [heap_set_other _ _ _ (by omega), heap_set_other _ _ _ (by omega), heap_set_other _ _ _ (by omega)]
    exact g.block j hj
  have htl : w0.heap.size ≤ w1.heap.size := by rw [HN.out.size]; omega
  generalize hw3 : ((w2.setCell ⟨rb, 7, none⟩ (.int .u64 0)).setCell ⟨rb, 8, none⟩ (.int .i64 now)).setCell ⟨rb, 9, none⟩ (.pointer none) = w3 at hR3 htb3 hS3 ⊢
  generalize htbe : w1.heap.size = tb at htb3 htl ⊢
  clear hw3 htbe htr k7 k8 k9 f7 f8 f9 HTB HR2 HS1
  have hL : L1 w0 (w3.alloc (.cells (madeCells #[.int .i64 0] fn) 2)) rb (w.heap.size + 1) (w.heap.size + 2) tb w3.heap.size tmo mp now fn F 0 [] [] := by
    have hA := (Same.refl w3).alloc (.cells (madeCells #[.int .i64 0] fn) 2)
    exact ⟨hS3.trans hA, ⟨C3, hR3.same hA⟩, List.Perm.refl _, rfl, fun j x hx => by simp at hx, (hA.block _ (lt_of_block htb3)).trans htb3, (World.rowIs_made w3 (.int .i64 0) fn 2).congr (fun i _ => by simp), by omega, by omega, by omega, hS3.size, fun b hb => by simp [fgs, blks] at hb⟩
  have HL : Hid _ := hL
  have HTL : Hid _ := htl
  clear hL hR3 htb3 hS3 htl hsz hrb
  have hm48 := run_make_row' (P := Yba.prog) 48 2 (.int .i64 0) 8 Yba.underlying48 info2e rfl .i64 .i64 fn (by omega) (by omega)
  go_cut [19] from 70 to 83 (fun v wx => v = .slice (some ⟨w3.heap.size, 0, none⟩) fn fn ∧ wx = w3.alloc (.cells (madeCells #[.int .i64 0] fn) 2))
  case first =>
    go_wp2
    go_meet
    case rel => exact ⟨rfl, rfl⟩
  case rest =>
    obtain ⟨hv, hwc⟩ := hcut
    subst hv
    rw [hwc]
    apply_assumption
    exact HK.out rb (w.heap.size + 1) (w.heap.size + 2) tb w3.heap.size _ _ _ _ _ _ _ _ _ _ _ _ _ _ _ _ _ _ _ _ _ _ _ _ _ _ _ _ _ _ _ _ _ _ _ _ _ _ _ _ _ _ _ _ _ _ _ _ _ _ _ _ _ _ _ _ _ _ _ _ _ _ _ _ _ _ _ _ _ _ _ _ _ _ _ _ _ _ _ _ _ _ _ _ _ _ _ _ _ _ _ _ _ _ _ _ _ _ _ _ _ _ _ _ _ _ _ _ _ _ _ _ _ _ _ _ _ _ _ _ _ _ _ _ _ _ _ _ _ _ _ _ _ _ _ _ _ _ _ _ _ _ _ _ _ _ _ _ _ _ _ _ _ _ _ _ _ _ _ _ _ _ _ _ _ _ _ _ _ _ _ _ _ _ _ _ _ _ _ _ _ _ _ _ _ _ _ _ _ _ _ _ _ _ _ _ _ _ _ _ _ _ _ _ _ _ _ _ _ _ _ _ _ _ _ _ _ _ _ _ _ _ _ _ _ _ _ _ _ _ _ _ _ _ _ _ _ _ _ _ _ _ _ _ _ _ _ _ _ _ _ _ _ _ _ _ _ _ _ _ _ _ _ _ _ _ _ _ _ _ _ _ _ _ _ _ _ _ _ _ _ _ _ _ _ _ _ _ _ _ _ _ _ _ _ _ _ _ _ _ _ _ _ _ _ _ _ _ _ _ _ _ _ _ _ _ _ _ _ _ _ _ _ _ _ _ _ _ _ _ _ _ _ _ _ _ _ _ _ _ _ _ _ _ _ _ _ _ _ _ _ _ _ _ _ _ _ _ _ _ _ _ _ _ _ _ _ _ _ _ _ _ _ _ _ _ _ _ _ _ _ _ _ _ _ _ _ _ _ _ _ _ _ _ _ _ _ _ _ _ _ _ _ _ _ _ _ _ _ _ _ _ _ _ _ HTL.out HL.out
end Go.Proofs.Ybulkakzc
