/-
  THE LAW OF EXPIRING (seat b1835a): its second loop.
-/
import Derived.Test.YbulkakzcLa2
import Derived.BigQuiet
namespace Go.Proofs.Ybulkakzc
open Go.RowKit
set_option linter.unusedSimpArgs false
theorem info2 : (Yba.prog.info? 2).map (fun i => (i.zero, i.size, i.bytes)) = some (some (.int .i64 0), 1, 8) := by kernel_rfl

/-- What the statement reads that makes a message. -/
def S29 (w4 : World) (tb kb xb : Nat) (i : Nat) (x : Mg) (w' : World) : Prop := Same w4 w' ∧ w'.cell? ⟨tb, 0, none⟩ = some (.int .u64 0) ∧ w'.cell? ⟨tb, 1, none⟩ = some (.int .i64 0) ∧ w'.cell? ⟨tb, 2, none⟩ = some (.pointer none) ∧
  w'.cell? ⟨kb, 0, none⟩ = some (.int .u64 0) ∧ w'.cell? ⟨kb, 1, none⟩ = some (.int .u64 0) ∧ w'.cell? ⟨kb, 2, none⟩ = some (.pointer none) ∧ w'.cell? ⟨kb, 3, none⟩ = some (.int .u16 0) ∧ w'.cell? ⟨kb, 4, none⟩ = some (.int .u64 0) ∧ w'.cell? ⟨kb, 5, none⟩ = some (.int .u64 0) ∧ w'.cell? ⟨kb, 6, none⟩ = some (.pointer none) ∧ w'.cell? ⟨kb, 7, none⟩ = some (.int .u16 0) ∧ w'.cell? ⟨kb, 8, none⟩ = some (.int .u32 (i : Int)) ∧
  w'.cell? ⟨xb, 1, none⟩ = some (.int .u8 x.c) ∧ w'.cell? ⟨xb, 2, none⟩ = some (.int .u8 x.f) ∧ w'.cell? ⟨xb, 3, none⟩ = some (.bool x.s)

set_option maxRecDepth 100000 in
set_option maxHeartbeats 8000000 in
theorem seg20 (w0 w : World) (ts mpb now pre : Int) (fa : Option Addr) (fn fc : Nat) (ma : Option Addr) (mn mc : Nat) (mp tmo : Int) (decb rb tb fb : Nat) (pm am : Nat) (F : Nat → Int) (M : Nat → Mg) (mbk moff : Nat) (al : List En) (fl : List Fq) (R : Ending → World → Prop) (v18 v20 v21 v22 v23 v24 v25 v26 v27 v28 v29 v30 v31 v32 v33 v34 v35 v36 v37 v38 v39 v40 v41 v42 v43 v44 v45 v46 v47 v48 v49 v50 v51 v52 v53 v54 v55 v56 v57 v58 v59 v60 v61 v62 v63 v64 v65 v66 v67 v68 v69 v70 v71 v72 v73 v74 v75 v76 v77 v78 v79 v80 v81 v82 v83 v84 v85 v86 v87 v88 v89 v90 v91 v92 v93 v94 v95 v96 v97 v98 v99 v100 v101 v102 v103 v104 v105 v106 v107 v108 v109 v110 v111 v112 v113 v114 v115 v116 v117 v118 v119 v120 v121 v122 v123 v124 v125 v126 v127 v128 v129 v130 v131 v132 v133 v134 v135 v136 v137 v138 v139 v140 v141 v142 v143 v144 v145 v146 v147 v148 v149 v150 v151 v152 v153 v154 v155 v156 v157 v158 v159 v160 v161 v162 v163 v164 v165 v166 v167 v168 v169 v170 v171 v172 v173 v174 v175 v176 v177 v178 v179 v180 v181 v182 v183 v184 v185 v186 v187 v188 v189 v190 v191 v192 v193 v194 v195 v196 v197 v198 v199 v200 v201 v202 v203 v204 v205 v206 v207 v208 v209 v210 v211 v212 v213 v214 v215 v216 v217 v218 v219 v220 v221 v222 v223 v224 v225 v226 v227 v228 v229 v230 v231 v232 v233 v234 v235 v236 v237 v238 v239 v240 v241 v242 v243 v244 v245 v246 v247 v248 v249 v250 v251 v252 v253 v254 v255 v256 v257 v258 v259 v260 v261 v262 v263 v264 v265 v266 v267 v268 v269 v270 v271 v272 v273 v274 v275 v276 v277 v278 v279 v280 v281 v282 v283 v284 v285 v286 v287 v288 v289 v290 v291 v292 v293 v294 v295 v296 v297 v298 v299 v300 v301 v302 v303 v304 v305 v306 v307 v308 v309 v310 v311 v312 v313 v314 v315 v316 v317 v318 v319 v320 v321 v322 v323 v324 v325 v326 v327 v328 v329 v330 v331 v332 v333 v334 v335 v336 v337 v338 v339 v340 v341 v342 v343 v344 v345 v346 v347 v348 v349 v350 v351 v352 v353 v354 v355 v356 v357 v358 v359 v360 v361 v362 v363 v364 v365 v366 v367 v368 v369 v370 v371 v372 v373 v374 v375 v376 v377 v378 v379 v380 v381 v382 v383 v384 v385 v386 v387 v388 v389 v390 v391 v392 v393 v394 v395 v396 v397 v398 v399 v400 v401 v402 v403 v404 v405 v406 v407 v408 v409 v410 v411 v412 v413 v414 v415 v416 v417 v418 v419 v420 v421 v422 v423 v424 v425 v426 v427 v428 v429 v430 v431 v432 v433 : Value)
    (hM : Imp w0 ma mn mbk moff M) (hmn : mn ≤ 1024) (hL : L1 w0 w rb pm am tb fb tmo mp now fn F fn al fl)
    (h33 : ∀ (gb : Nat) (v18 v20 v21 v23 v24 v25 v26 v27 v28 v29 v30 v31 v32 v33 v34 v35 v36 v37 v38 v39 v40 v41 v42 v43 v44 v45 v46 v47 v48 v49 v50 v51 v52 v53 v54 v55 v56 v57 v58 v59 v60 v61 v62 v63 v64 v65 v66 v67 v68 v69 v70 v71 v72 v73 v74 v75 v76 v77 v78 v79 v80 v81 v82 v83 v84 v85 v86 v87 v88 v89 v90 v91 v92 v93 v94 v95 v96 v97 v98 v99 v100 v101 v102 v103 v104 v105 v106 v107 v108 v109 v110 v111 v112 v113 v114 v115 v116 v117 v118 v119 v120 v121 v122 v123 v124 v125 v126 v127 v128 v129 v130 v131 v132 v133 v134 v135 v136 v137 v138 v139 v140 v141 v142 v143 v144 v145 v146 v147 v148 v149 v150 v151 v152 v153 v154 v155 v156 v157 v158 v159 v160 v161 v162 v163 v164 v165 v166 v167 v168 v169 v170 v171 v172 v173 v174 v175 v176 v177 v178 v179 v180 v181 v182 v183 v184 v185 v186 v187 v188 v189 v190 v191 v192 v193 v194 v195 v196 v197 v198 v199 v200 v201 v202 v203 v204 v205 v206 v207 v208 v209 v210 v211 v212 v213 v214 v215 v216 v217 v218 v219 v220 v221 v222 v223 v224 v225 v226 v227 v228 v229 v230 v231 v232 v233 v234 v235 v236 v237 v238 v239 v240 v241 v242 v243 v244 v245 v246 v247 v248 v249 v250 v251 v252 v253 v254 v255 v256 v257 v258 v259 v260 v261 v262 v263 v264 v265 v266 v267 v268 v269 v270 v271 v272 v273 v274 v275 v276 v277 v278 v279 v280 v281 v282 v283 v284 v285 v286 v287 v288 v289 v290 v291 v292 v293 v294 v295 v296 v297 v298 v299 v300 v301 v302 v303 v304 v305 v306 v307 v308 v309 v310 v311 v312 v313 v314 v315 v316 v317 v318 v319 v320 v321 v322 v323 v324 v325 v326 v327 v328 v329 v330 v331 v332 v333 v334 v335 v336 v337 v338 v339 v340 v341 v342 v343 v344 v345 v346 v347 v348 v349 v350 v351 v352 v353 v354 v355 v356 v357 v358 v359 v360 v361 v362 v363 v364 v365 v366 v367 v368 v369 v370 v371 v372 v373 v374 v375 v376 v377 v378 v379 v380 v381 v382 v383 v384 v385 v386 v387 v388 v389 v390 v391 v392 v393 v394 v395 v396 v397 v398 v399 v400 v401 v402 v403 v404 v405 v406 v407 v408 v409 v410 v411 v412 v413 v414 v415 v416 v417 v418 v419 v420 v421 v422 v423 v424 v425 v426 v427 v428 v429 v430 v431 v432 v433 : Value) (w' : World) (pl : List En) (ms : List Ms), ms.length = mn → L2 w0 w' rb pm am tb fb gb tmo mp now fn mn F M mn al pl fl ms → Code.wp Yba.prog (fromR 33 (Yba.f3.body.getD .skip)) (bodyPost Yba.prog Yba.f3 R) ⟨#[.int .i64 ts, .int .u8 mpb, .int .u16 now, .slice fa fn fc, .slice ma mn mc, .int .u8 pre, undef, undef, undef, undef, undef, undef, .bool false, .int .i64 mp, P2 decb 0, .int .i64 (rto tmo), P2 rb 0, P2 tb 0, v18, .slice (some ⟨fb, 0, none⟩) fn fn, v20, v21, .slice (some ⟨gb, 0, none⟩) mn mn, v23, v24, v25, v26, v27, v28, v29, v30, v31, v32, v33, v34, v35, v36, v37, v38, v39, v40, v41, v42, v43, v44, v45, v46, v47, v48, v49, v50, v51, v52, v53, v54, v55, v56, v57, v58, v59, v60, v61, v62, v63, v64, v65, v66, v67, v68, v69, v70, v71, v72, v73, v74, v75, v76, v77, v78, v79, v80, v81, v82, v83, v84, v85, v86, v87, v88, v89, v90, v91, v92, v93, v94, v95, v96, v97, v98, v99, v100, v101, v102, v103, v104, v105, v106, v107, v108, v109, v110, v111, v112, v113, v114, v115, v116, v117, v118, v119, v120, v121, v122, v123, v124, v125, v126, v127, v128, v129, v130, v131, v132, v133, v134, v135, v136, v137, v138, v139, v140, v141, v142, v143, v144, v145, v146, v147, v148, v149, v150, v151, v152, v153, v154, v155, v156, v157, v158, v159, v160, v161, v162, v163, v164, v165, v166, v167, v168, v169, v170, v171, v172, v173, v174, v175, v176, v177, v178, v179, v180, v181, v182, v183, v184, v185, v186, v187, v188, v189, v190, v191, v192, v193, v194, v195, v196, v197, v198, v199, v200, v201, v202, v203, v204, v205, v206, v207, v208, v209, v210, v211, v212, v213, v214, v215, v216, v217, v218, v219, v220, v221, v222, v223, v224, v225, v226, v227, v228, v229, v230, v231, v232, v233, v234, v235, v236, v237, v238, v239, v240, v241, v242, v243, v244, v245, v246, v247, v248, v249, v250, v251, v252, v253, v254, v255, v256, v257, v258, v259, v260, v261, v262, v263, v264, v265, v266, v267, v268, v269, v270, v271, v272, v273, v274, v275, v276, v277, v278, v279, v280, v281, v282, v283, v284, v285, v286, v287, v288, v289, v290, v291, v292, v293, v294, v295, v296, v297, v298, v299, v300, v301, v302, v303, v304, v305, v306, v307, v308, v309, v310, v311, v312, v313, v314, v315, v316, v317, v318, v319, v320, v321, v322, v323, v324, v325, v326, v327, v328, v329, v330, v331, v332, v333, v334, v335, v336, v337, v338, v339, v340, v341, v342, v343, v344, v345, v346, v347, v348, v349, v350, v351, v352, v353, v354, v355, v356, v357, v358, v359, v360, v361, v362, v363, v364, v365, v366, v367, v368, v369, v370, v371, v372, v373, v374, v375, v376, v377, v378, v379, v380, v381, v382, v383, v384, v385, v386, v387, v388, v389, v390, v391, v392, v393, v394, v395, v396, v397, v398, v399, v400, v401, v402, v403, v404, v405, v406, v407, v408, v409, v410, v411, v412, v413, v414, v415, v416, v417, v418, v419, v420, v421, v422, v423, v424, v425, v426, v427, v428, v429, v430, v431, v432, v433], []⟩ w') :
    Code.wp Yba.prog (fromR 20 (Yba.f3.body.getD .skip)) (bodyPost Yba.prog Yba.f3 R) ⟨#[.int .i64 ts, .int .u8 mpb, .int .u16 now, .slice fa fn fc, .slice ma mn mc, .int .u8 pre, undef, undef, undef, undef, undef, undef, .bool false, .int .i64 mp, P2 decb 0, .int .i64 (rto tmo), P2 rb 0, P2 tb 0, v18, .slice (some ⟨fb, 0, none⟩) fn fn, v20, v21, v22, v23, v24, v25, v26, v27, v28, v29, v30, v31, v32, v33, v34, v35, v36, v37, v38, v39, v40, v41, v42, v43, v44, v45, v46, v47, v48, v49, v50, v51, v52, v53, v54, v55, v56, v57, v58, v59, v60, v61, v62, v63, v64, v65, v66, v67, v68, v69, v70, v71, v72, v73, v74, v75, v76, v77, v78, v79, v80, v81, v82, v83, v84, v85, v86, v87, v88, v89, v90, v91, v92, v93, v94, v95, v96, v97, v98, v99, v100, v101, v102, v103, v104, v105, v106, v107, v108, v109, v110, v111, v112, v113, v114, v115, v116, v117, v118, v119, v120, v121, v122, v123, v124, v125, v126, v127, v128, v129, v130, v131, v132, v133, v134, v135, v136, v137, v138, v139, v140, v141, v142, v143, v144, v145, v146, v147, v148, v149, v150, v151, v152, v153, v154, v155, v156, v157, v158, v159, v160, v161, v162, v163, v164, v165, v166, v167, v168, v169, v170, v171, v172, v173, v174, v175, v176, v177, v178, v179, v180, v181, v182, v183, v184, v185, v186, v187, v188, v189, v190, v191, v192, v193, v194, v195, v196, v197, v198, v199, v200, v201, v202, v203, v204, v205, v206, v207, v208, v209, v210, v211, v212, v213, v214, v215, v216, v217, v218, v219, v220, v221, v222, v223, v224, v225, v226, v227, v228, v229, v230, v231, v232, v233, v234, v235, v236, v237, v238, v239, v240, v241, v242, v243, v244, v245, v246, v247, v248, v249, v250, v251, v252, v253, v254, v255, v256, v257, v258, v259, v260, v261, v262, v263, v264, v265, v266, v267, v268, v269, v270, v271, v272, v273, v274, v275, v276, v277, v278, v279, v280, v281, v282, v283, v284, v285, v286, v287, v288, v289, v290, v291, v292, v293, v294, v295, v296, v297, v298, v299, v300, v301, v302, v303, v304, v305, v306, v307, v308, v309, v310, v311, v312, v313, v314, v315, v316, v317, v318, v319, v320, v321, v322, v323, v324, v325, v326, v327, v328, v329, v330, v331, v332, v333, v334, v335, v336, v337, v338, v339, v340, v341, v342, v343, v344, v345, v346, v347, v348, v349, v350, v351, v352, v353, v354, v355, v356, v357, v358, v359, v360, v361, v362, v363, v364, v365, v366, v367, v368, v369, v370, v371, v372, v373, v374, v375, v376, v377, v378, v379, v380, v381, v382, v383, v384, v385, v386, v387, v388, v389, v390, v391, v392, v393, v394, v395, v396, v397, v398, v399, v400, v401, v402, v403, v404, v405, v406, v407, v408, v409, v410, v411, v412, v413, v414, v415, v416, v417, v418, v419, v420, v421, v422, v423, v424, v425, v426, v427, v428, v429, v430, v431, v432, v433], []⟩ w := by
  dsimp only at h33 ⊢
  conv => arg 2; whnf
  unfold P2
  have HK : Hid _ := h33
  have HM : Hid _ := hM
  have hm48 := run_make_row' (P := Yba.prog) 48 2 (.int .i64 0) 8 Yba.underlying48 info2 rfl .i64 .i64 mn (by omega) (by omega)
  have hL0 : L2 w0 (w.alloc (.cells (madeCells #[.int .i64 0] mn) 2)) rb pm am tb fb w.heap.size tmo mp now fn mn F M 0 al [] fl [] := by
    have hL' := hL.move ((Same.refl w).alloc (.cells (madeCells #[.int .i64 0] mn) 2))
    obtain ⟨C, hR⟩ := hL'.rs
    have hlt := hL.row.lt
    exact ⟨hL'.same, ⟨C, hR⟩, hL.aperm, hL.keys, hL.ats, List.Perm.refl _, rfl, fun j x hx => by simp at hx, fun x hx => by simp at hx, List.nodup_nil, hL'.base, hL'.row, (World.rowIs_made w (.int .i64 0) mn 2).congr (fun i _ => by simp), by omega, hL.l1, hL.l2, hL.l3, hL.l4, hL.l5, hL.same.size, fun x hx => by simp at hx⟩
  have HL0 : Hid _ := hL0
  clear h33 hL hM hL0
  go_upto_region 22 with fail
  obtain ⟨gb, hgb⟩ : ∃ gb, gb = w.heap.size := ⟨_, rfl⟩
  rw [← hgb] at HL0 ⊢
  generalize hw1 : w.alloc (.cells (madeCells #[.int .i64 0] mn) 2) = w1 at HL0 ⊢
  clear hw1 hgb hm48
  go_wp2_with fail
  go_loopg [18, 23] mn (fun g a t wr => ∃ (i : Nat) (pl : List En) (ms : List Ms), i ≤ mn ∧ g = mn - i ∧ a = .int .i64 (acc (md M) i) ∧ t = .int .i64 i ∧ ms.length = i ∧ L2 w0 wr rb pm am tb fb gb tmo mp now fn mn F M i al pl fl ms)
  case atStart => exact ⟨0, [], [], Nat.zero_le _, rfl, rfl, rfl, rfl, HL0.out⟩
  case round =>
    obtain ⟨i, pl, ms, hi, hg, rfl, rfl, hlen, hL⟩ := hrel
    have HL : Hid _ := hL
    clear hL
    by_cases hin : i < mn
    · have hma := HM.out.addr (by omega)
      subst hma
      have hml := HM.out.lt (by omega)
      obtain ⟨q0, q1, q2, q3⟩ := (HM.out.at_ i hin).of_block (HL.out.same.block mbk hml)
      have hok := HM.out.ok i hin
      have hdb : ∀ j, j < mn → 0 ≤ md M j ∧ md M j < 256 := fun j hj => ⟨(HM.out.ok j hj).d0, (HM.out.ok j hj).d1⟩
      have hab := acc_bound hdb i (by omega)
      have hb := hdb i hin
      have hmd : md M i = (M i).d := rfl
      have HMD : Hid (md M i = (M i).d) := hmd
      rw [hmd] at hb
      have HOK : Hid _ := hok
      clear hdb hmd hok
      go_upto_region 26 with fail
      change Code.wp _ _ _ _ (wr.alloc (.cells (mgc (M i)) 65))
      have hL1 := HL.out.move ((Same.refl wr).alloc (.cells (mgc (M i)) 65))
      have hx1 := heap_alloc_new wr (.cells (mgc (M i)) 65)
      obtain ⟨xb, hxb⟩ : ∃ xb, xb = wr.heap.size := ⟨_, rfl⟩
      rw [← hxb] at hx1 ⊢
      generalize hw2 : wr.alloc (.cells (mgc (M i)) 65) = w2 at hL1 hx1 ⊢
      clear hw2 hxb q0 q1 q2 q3 HL
      have x0 := cell_of_heap hx1 0 (.int .u8 (M i).d) rfl
      have r1 := hL1.row2.cell (i := i) hin
      have f1 := hL1.row2.frozen i
      have hw1 : IntKind.i64.wrap (M i).d = (M i).d := by rw [IntKind.wrap_i64]; omega
      have hw2 : IntKind.i64.wrap (acc (md M) i + (M i).d) = acc (md M) i + (M i).d := by rw [IntKind.wrap_i64]; omega
      have hw4 : IntKind.u32.wrap (i : Int) = (i : Int) := by rw [IntKind.wrap_u32]; omega
      have hxg : xb ≠ gb := ne_cells_row hx1 hL1.row2 (by decide)
      have hL3 := hL1.sec
      change L2 w0 (w2.setCell ⟨gb, i, none⟩ (.int .i64 (acc (md M) i + (M i).d))) _ _ _ _ _ _ _ _ _ _ _ _ _ _ _ _ _ _ at hL3
      have hx3 : (w2.setCell ⟨gb, i, none⟩ (.int .i64 (acc (md M) i + (M i).d))).heap[xb]? = some (.cells (mgc (M i)) 65 (0, 0)) := (heap_set_other _ _ _ hxg).trans hx1
      have HL3 : Hid _ := hL3
      have HX3 : Hid _ := hx3
      clear hL1 hx1 hL3 hx3
      go_upto_region 28 with fail
      generalize hw3 : w2.setCell ⟨gb, i, none⟩ (.int .i64 (acc (md M) i + (M i).d)) = w3 at HL3 HX3 ⊢
      clear hw3 x0 r1 f1
      go_upto_region 29 with fail
      change Code.wp _ _ _ _ (w3.alloc (.cells (kc (mk_ i)).toArray 60))
      have hL4 := HL3.out.move ((Same.refl w3).alloc (.cells (kc (mk_ i)).toArray 60))
      have hk4 := heap_alloc_new w3 (.cells (kc (mk_ i)).toArray 60)
      have hx4 := (Below.heap_alloc w3 (.cells (kc (mk_ i)).toArray 60) xb (lt_of_block HX3.out)).trans HX3.out
      obtain ⟨kb, hkb⟩ : ∃ kb, kb = w3.heap.size := ⟨_, rfl⟩
      rw [← hkb] at hk4 ⊢
      generalize hw4 : w3.alloc (.cells (kc (mk_ i)).toArray 60) = w4 at hL4 hk4 hx4 ⊢
      clear hw4 hkb HL3 HX3
      have HSX : Hid (∀ w', Same w4 w' → S29 w4 tb kb xb i (M i) w') := by
        intro w' hS
        have g1 := (hS.block tb (lt_of_block hL4.base)).trans hL4.base
        have g2 := (hS.block kb (lt_of_block hk4)).trans hk4
        have g3 := (hS.block xb (lt_of_block hx4)).trans hx4
        exact ⟨hS, cell_of_heap g1 0 _ rfl, cell_of_heap g1 1 _ rfl, cell_of_heap g1 2 _ rfl, cell_of_heap g2 0 _ rfl, cell_of_heap g2 1 _ rfl, cell_of_heap g2 2 _ rfl, cell_of_heap g2 3 _ rfl, cell_of_heap g2 4 _ rfl, cell_of_heap g2 5 _ rfl, cell_of_heap g2 6 _ rfl, cell_of_heap g2 7 _ rfl, cell_of_heap g2 8 _ rfl, cell_of_heap g3 1 _ rfl, cell_of_heap g3 2 _ rfl, cell_of_heap g3 3 _ rfl⟩
      have hwm : IntKind.i64.wrap ((acc (md M) i + (M i).d) * 1000000000) = (acc (md M) i + (M i).d) * 1000000000 := by rw [IntKind.wrap_i64]; omega
      have hwc : IntKind.i64.wrap (M i).c = (M i).c := by have h1 := HOK.out.c0; have h2 := HOK.out.c1; rw [IntKind.wrap_i64]; omega
      have hwf : IntKind.i64.wrap (M i).f = (M i).f := by have h1 := HOK.out.f0; have h2 := HOK.out.f1; rw [IntKind.wrap_i64]; omega
      have HADD : Hid (∀ w', S29 w4 tb kb xb i (M i) w' → Calls Yba.prog 6 #[.agg #[.int .u64 0, .int .i64 0, .pointer none], .int .i64 ((acc (md M) i + (M i).d) * 1000000000)] w' fun r w'' => r = .returned (.agg #[.int .u64 0, .int .i64 (acc (md M) i + (M i).d), .pointer none]) ∧ S29 w4 tb kb xb i (M i) w'') := by
        intro w' hw'
        refine (add_any w' 0 (acc (md M) i + (M i).d) (by omega) (by omega) (by omega) (by omega)).mono ?_
        rintro r w'' ⟨rfl, hS⟩
        exact ⟨by rw [Int.zero_add]; rfl, HSX.out _ (hw'.1.trans hS)⟩
      have HL4 : Hid _ := hL4
      have HK4 : Hid _ := hk4
      have HX4 : Hid _ := hx4
      clear hL4 hk4 hx4
      go_region_held3 (fun w' => Same w4 w' ∧ w'.cell? ⟨tb, 0, none⟩ = some (.int .u64 0) ∧ w'.cell? ⟨tb, 1, none⟩ = some (.int .i64 0) ∧ w'.cell? ⟨tb, 2, none⟩ = some (.pointer none) ∧
          w'.cell? ⟨kb, 0, none⟩ = some (.int .u64 0) ∧ w'.cell? ⟨kb, 1, none⟩ = some (.int .u64 0) ∧ w'.cell? ⟨kb, 2, none⟩ = some (.pointer none) ∧ w'.cell? ⟨kb, 3, none⟩ = some (.int .u16 0) ∧ w'.cell? ⟨kb, 4, none⟩ = some (.int .u64 0) ∧ w'.cell? ⟨kb, 5, none⟩ = some (.int .u64 0) ∧ w'.cell? ⟨kb, 6, none⟩ = some (.pointer none) ∧ w'.cell? ⟨kb, 7, none⟩ = some (.int .u16 0) ∧ w'.cell? ⟨kb, 8, none⟩ = some (.int .u32 (i : Int)) ∧
          w'.cell? ⟨xb, 1, none⟩ = some (.int .u8 (M i).c) ∧ w'.cell? ⟨xb, 2, none⟩ = some (.int .u8 (M i).f) ∧ w'.cell? ⟨xb, 3, none⟩ = some (.bool (M i).s))
        (first | exact HSX.out _ (Same.refl _).drew | assumption | exact HSX.out _ (Same.alloc (And.left hT5) _))
        (first | (go_at_call 6; refine (HADD.out _ (by assumption)).mono ?_; rintro r w5 ⟨rfl, hT5⟩; unfold S29 at hT5))
      have hS6 : Same w4 (w5.alloc (.cells (msg (mk_ i) 0 (acc (md M) i + (M i).d) (.pointer none) (M i).c (M i).f (M i).s) 71)) := Same.alloc (And.left hT5) _
      have hM6 : Msg (w5.alloc (.cells (msg (mk_ i) 0 (acc (md M) i + (M i).d) (.pointer none) (M i).c (M i).f (M i).s) 71)) w5.heap.size (mk_ i) 0 (acc (md M) i + (M i).d) (.pointer none) (M i).c (M i).f (M i).s := heap_alloc_new _ _
      have hmb0 : w0.heap.size ≤ w5.heap.size := Nat.le_trans HL4.out.same.size (And.left hT5).size
      obtain ⟨mb, hmb⟩ : ∃ mb, mb = w5.heap.size := ⟨_, rfl⟩
      rw [← hmb] at hM6 hmb0 ⊢
      change Exit.then _ _ _ _ (w5.alloc (.cells (msg (mk_ i) 0 (acc (md M) i + (M i).d) (.pointer none) (M i).c (M i).f (M i).s) 71))
      have hL6 := HL4.out.move hS6
      have hk6 := (hS6.block kb (lt_of_block HK4.out)).trans HK4.out
      have hx6 := (hS6.block xb (lt_of_block HX4.out)).trans HX4.out
      generalize hw6 : w5.alloc (.cells (msg (mk_ i) 0 (acc (md M) i + (M i).d) (.pointer none) (M i).c (M i).f (M i).s) 71) = w6 at hM6 hL6 hk6 hx6 ⊢
      clear hw6 hmb hS6 hT5 HL4 HK4 HX4 HADD HSX
      obtain ⟨C6, hR6⟩ := hL6.rs
      have hmr : mb ≠ rb := ne_msg_row hM6 hR6.row (by decide)
      have hpu := push_any w6 rb 11 C6 (sts ms) 66 (P2 mb 0) (by omega) hR6.row hR6.qs (by rw [sts_length]; omega)
      have HM6 : Hid _ := hM6
      have HL6 : Hid _ := hL6
      have HK6 : Hid _ := hk6
      have HX6 : Hid _ := hx6
      have HR6 : Hid _ := hR6
      clear hM6 hL6 hk6 hx6 hR6
      unfold P2 at hpu
      go_wp2_with fail
      refine hpu.mono ?_
      clear hpu
      rintro e w7 ⟨rfl, hz7, C7, hr7, hRing7, hC7, hQ7⟩
      dsimp only
      have hm7 : w7.heap[mb]? = some (.cells (msg (mk_ i) 0 (acc (md M) i + (M i).d) (.pointer none) (M i).c (M i).f (M i).s) 71 (0, 0)) := (hQ7.block mb (lt_of_block HM6.out) hmr (ne_msg_dq HM6.out HR6.out.qs)).trans HM6.out
      have m12 := cell_of_heap hm7 12 (.pointer none) rfl
      have f12 : w7.frozen? ⟨mb, 12, none⟩ = false := by simp [World.frozen?, hm7]
      obtain ⟨cp, hp⟩ := HR6.out.pmap
      have hpr : pm ≠ rb := ne_map_row hp HR6.out.row
      have hpm : pm ≠ mb := Ne.symm (ne_msg_map HM6.out hp)
      have hps : pm ∉ blks (sts ms) := ne_map_dq hp HR6.out.qs
      have hp8 : (w7.setCell ⟨mb, 12, none⟩ (P2 w6.heap.size 0)).heap[pm]? = some (.map (ents pl) cp) := ((heap_set_other _ _ _ hpm).trans (hQ7.block pm (lt_of_block hp) hpr hps)).trans hp
      obtain ⟨w9, c9, hup, ho9, hb9⟩ := mapPut_run (w := w7.setCell ⟨mb, 12, none⟩ (P2 w6.heap.size 0)) 36 66 Yba.underlying36 hp8 (mk_ i) (P2 mb 0)
      have hup1 : (Instr.mapUpdate 36 (.map (some pm)) (kv (mk_ i)) (P2 mb 0)).run Yba.prog (w7.setCell ⟨mb, 12, none⟩ (P2 w6.heap.size 0)).drew = .ok () w9.drew := hup 1
      simp only [kv, kc, mk_] at hup1
      obtain ⟨hRS, hMs, ho, hu, hz, hB, hr9, hM9, hB8, hr8, hB9⟩ := wait_post HR6.out HM6.out hz7 hr7 hRing7 hC7 hQ7 ho9 hb9
      have k10 := (hr8.cell (i := 10) (by omega)).trans (congrArg some ((hC7 10 (by omega) (by omega) (by omega)).trans HR6.out.rc.c10))
      obtain ⟨e1, e2, e3, e4, e5⟩ := HR6.out.apart (by decide) (by decide) HK6.out
      obtain ⟨d1, d2, d3, d4, d5⟩ := HR6.out.apart (by decide) (by decide) HX6.out
      have hkm : kb ≠ mb := by
        intro e
        have h1 := HK6.out
        have h2 := HM6.out
        unfold Msg at h2
        rw [e, h2] at h1
        simp at h1
      have hxm : xb ≠ mb := by
        intro e
        have h1 := HX6.out
        have h2 := HM6.out
        unfold Msg at h2
        rw [e, h2] at h1
        simp at h1
      have hk8 := (hB8 kb (lt_of_block HK6.out) e1 e2 hkm e4).trans HK6.out
      have hx9 := (hB9 xb (lt_of_block HX6.out) d1 d2 hxm d4).trans HX6.out
      have z0 := cell_of_heap hk8 0 (.int .u64 0) rfl
      have z1 := cell_of_heap hk8 1 (.int .u64 0) rfl
      have z2 := cell_of_heap hk8 2 (.pointer none) rfl
      have z3 := cell_of_heap hk8 3 (.int .u16 0) rfl
      have z4 := cell_of_heap hk8 4 (.int .u64 0) rfl
      have z5 := cell_of_heap hk8 5 (.int .u64 0) rfl
      have z6 := cell_of_heap hk8 6 (.pointer none) rfl
      have z7 := cell_of_heap hk8 7 (.int .u16 0) rfl
      have z8 := cell_of_heap hk8 8 (.int .u32 (i : Int)) rfl
      have x1 := cell_of_heap hx9 1 (.int .u8 (M i).c) rfl
      have k16 := (hr9.cell (i := 16) (by omega)).trans (congrArg some ((hC7 16 (by omega) (by omega) (by omega)).trans HR6.out.rc.c16))
      have f16 := hr9.frozen 16
      have hsb := sumc_bound ms (fun y hy => by
        obtain ⟨j, hj, rfl⟩ := List.getElem_of_mem hy
        have h1 := (HL6.out.mats j _ (List.getElem?_eq_getElem hj)).2.1
        have h2 := HM.out.ok j (by omega)
        have h3 := h2.c0
        have h4 := h2.c1
        omega)
      have hws : IntKind.i64.wrap (sumc ms + (M i).c) = sumc ms + (M i).c := by have h1 := HOK.out.c0; have h2 := HOK.out.c1; rw [IntKind.wrap_i64]; omega
      have hN := HL6.out.next (c := cp) (eb := w6.heap.size) (by rw [hlen]; exact HM6.out) hmb0 (Nat.le_refl _) (by rw [hlen]; rfl) (by rw [hlen]) (by rw [hlen]) (by rw [hlen]) (by rw [hlen]; exact hRS) (by rw [hlen]; exact hMs) ho hu hz hB
      have HN : Hid _ := hN
      unfold P2 at hup1 k10 z0 z1 z2 z3 z4 z5 z6 z7 z8
      clear hRS hMs ho hu hz hB hr9 hM9 hB8 hr8 hB9 hk8 hx9 hup ho9 hb9 hp8 hm7 hz7 hr7 hRing7 hC7 hQ7 hp hsb hN e1 e2 e3 e4 e5 d1 d2 d3 d4 d5 HR6 HM6 HK6 HX6
      go_upto_region 31 with fail
      obtain ⟨eb, heb⟩ : ∃ eb, eb = w6.heap.size := ⟨_, rfl⟩
      rw [← heb] at hup1 k10 z0 z1 z2 z3 z4 z5 z6 z7 z8 ⊢
      generalize hw8 : w7.setCell ⟨mb, 12, none⟩ (.pointer (some ⟨eb, 0, none⟩)) = w8 at hup1 k10 z0 z1 z2 z3 z4 z5 z6 z7 z8 ⊢
      clear hw8 m12 f12 heb
      go_region
      go_upto_region 32 with fail
      go_region
      clear hup1 k10 z0 z1 z2 z3 z4 z5 z6 z7 z8 x1 k16 f16
      have hN2 := HN.out.move ((Same.refl (w9.setCell ⟨rb, 16, none⟩ (.int .i64 (sumc ms + (M i).c)))).drew.drew)
      have HN2 : Hid _ := hN2
      generalize hwz : (w9.setCell ⟨rb, 16, none⟩ (.int .i64 (sumc ms + (M i).c))).drew.drew = wz at HN2 ⊢
      clear hN2 hwz HN
      have hw9 : IntKind.i64.wrap ((i : Int) + 1) = (i : Int) + 1 := by rw [IntKind.wrap_i64]; omega
      go_wp2
      go_roundg (mn - (i + 1))
      case measure => omega
      case rel => exact ⟨i + 1, _, _, by omega, rfl, rfl, by simp, by simp [hlen], HN2.out⟩
    · have hie : i = mn := by omega
      subst hie
      go_upto_if 127 with fail
      refine wp_cond_false (by rfl) (wp_exit ?_)
      simp only [Exit.then, Exit.inBlock, if_true]
      apply_assumption
      exact HK.out gb _ _ _ _ _ _ _ _ _ _ _ _ _ _ _ _ _ _ _ _ _ _ _ _ _ _ _ _ _ _ _ _ _ _ _ _ _ _ _ _ _ _ _ _ _ _ _ _ _ _ _ _ _ _ _ _ _ _ _ _ _ _ _ _ _ _ _ _ _ _ _ _ _ _ _ _ _ _ _ _ _ _ _ _ _ _ _ _ _ _ _ _ _ _ _ _ _ _ _ _ _ _ _ _ _ _ _ _ _ _ _ _ _ _ _ _ _ _ _ _ _ _ _ _ _ _ _ _ _ _ _ _ _ _ _ _ _ _ _ _ _ _ _ _ _ _ _ _ _ _ _ _ _ _ _ _ _ _ _ _ _ _ _ _ _ _ _ _ _ _ _ _ _ _ _ _ _ _ _ _ _ _ _ _ _ _ _ _ _ _ _ _ _ _ _ _ _ _ _ _ _ _ _ _ _ _ _ _ _ _ _ _ _ _ _ _ _ _ _ _ _ _ _ _ _ _ _ _ _ _ _ _ _ _ _ _ _ _ _ _ _ _ _ _ _ _ _ _ _ _ _ _ _ _ _ _ _ _ _ _ _ _ _ _ _ _ _ _ _ _ _ _ _ _ _ _ _ _ _ _ _ _ _ _ _ _ _ _ _ _ _ _ _ _ _ _ _ _ _ _ _ _ _ _ _ _ _ _ _ _ _ _ _ _ _ _ _ _ _ _ _ _ _ _ _ _ _ _ _ _ _ _ _ _ _ _ _ _ _ _ _ _ _ _ _ _ _ _ _ _ _ _ _ _ _ _ _ _ _ _ _ _ _ _ _ _ _ _ _ _ _ _ _ _ _ _ _ _ _ _ _ _ _ _ _ _ _ _ _ _ _ _ _ _ _ _ _ _ _ _ _ _ _ _ _ _ _ _ _ _ _ _ _ _ _ pl ms hlen HL.out
end Go.Proofs.Ybulkakzc
