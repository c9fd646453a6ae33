/-
  THE LAW OF EXPIRING (seat b1835a): its first loop.
-/
import Derived.Test.YbulkakzcLa1
import Derived.BigQuiet
namespace Go.Proofs.Ybulkakzc
open Go.RowKit
set_option linter.unusedSimpArgs false

set_option maxRecDepth 100000 in
set_option maxHeartbeats 8000000 in
theorem seg13 (w0 w : World) (ts mpb now pre : Int) (fa : Option Addr) (fn fc : Nat) (ma : Option Addr) (mn mc : Nat) (mp tmo : Int) (decb rb tb fb : Nat) (pm am : Nat) (F : Nat → Int) (fbk foff : Nat) (R : Ending → World → Prop) (v20 v21 v22 v23 v24 v25 v26 v27 v28 v29 v30 v31 v32 v33 v34 v35 v36 v37 v38 v39 v40 v41 v42 v43 v44 v45 v46 v47 v48 v49 v50 v51 v52 v53 v54 v55 v56 v57 v58 v59 v60 v61 v62 v63 v64 v65 v66 v67 v68 v69 v70 v71 v72 v73 v74 v75 v76 v77 v78 v79 v80 v81 v82 v83 v84 v85 v86 v87 v88 v89 v90 v91 v92 v93 v94 v95 v96 v97 v98 v99 v100 v101 v102 v103 v104 v105 v106 v107 v108 v109 v110 v111 v112 v113 v114 v115 v116 v117 v118 v119 v120 v121 v122 v123 v124 v125 v126 v127 v128 v129 v130 v131 v132 v133 v134 v135 v136 v137 v138 v139 v140 v141 v142 v143 v144 v145 v146 v147 v148 v149 v150 v151 v152 v153 v154 v155 v156 v157 v158 v159 v160 v161 v162 v163 v164 v165 v166 v167 v168 v169 v170 v171 v172 v173 v174 v175 v176 v177 v178 v179 v180 v181 v182 v183 v184 v185 v186 v187 v188 v189 v190 v191 v192 v193 v194 v195 v196 v197 v198 v199 v200 v201 v202 v203 v204 v205 v206 v207 v208 v209 v210 v211 v212 v213 v214 v215 v216 v217 v218 v219 v220 v221 v222 v223 v224 v225 v226 v227 v228 v229 v230 v231 v232 v233 v234 v235 v236 v237 v238 v239 v240 v241 v242 v243 v244 v245 v246 v247 v248 v249 v250 v251 v252 v253 v254 v255 v256 v257 v258 v259 v260 v261 v262 v263 v264 v265 v266 v267 v268 v269 v270 v271 v272 v273 v274 v275 v276 v277 v278 v279 v280 v281 v282 v283 v284 v285 v286 v287 v288 v289 v290 v291 v292 v293 v294 v295 v296 v297 v298 v299 v300 v301 v302 v303 v304 v305 v306 v307 v308 v309 v310 v311 v312 v313 v314 v315 v316 v317 v318 v319 v320 v321 v322 v323 v324 v325 v326 v327 v328 v329 v330 v331 v332 v333 v334 v335 v336 v337 v338 v339 v340 v341 v342 v343 v344 v345 v346 v347 v348 v349 v350 v351 v352 v353 v354 v355 v356 v357 v358 v359 v360 v361 v362 v363 v364 v365 v366 v367 v368 v369 v370 v371 v372 v373 v374 v375 v376 v377 v378 v379 v380 v381 v382 v383 v384 v385 v386 v387 v388 v389 v390 v391 v392 v393 v394 v395 v396 v397 v398 v399 v400 v401 v402 v403 v404 v405 v406 v407 v408 v409 v410 v411 v412 v413 v414 v415 v416 v417 v418 v419 v420 v421 v422 v423 v424 v425 v426 v427 v428 v429 v430 v431 v432 v433 : Value)
    (hfa : 0 < fn → fa = some ⟨fbk, foff, none⟩ ∧ fbk < w0.heap.size) (hF : ∀ i, i < fn → w0.cell? ⟨fbk, foff + i, none⟩ = some (.int .u8 (F i))) (hFb : ∀ i, i < fn → 0 ≤ F i ∧ F i < 256) (hfn : fn ≤ 1024) (hL : L1 w0 w rb pm am tb fb tmo mp now fn F 0 [] [])
    (h20 : ∀ (v18 v20 v21 v22 v23 v24 v25 v26 v27 v28 v29 v30 v31 v32 v33 v34 v35 v36 v37 v38 v39 v40 v41 v42 v43 v44 v45 v46 v47 v48 v49 v50 v51 v52 v53 v54 v55 v56 v57 v58 v59 v60 v61 v62 v63 v64 v65 v66 v67 v68 v69 v70 v71 v72 v73 v74 v75 v76 v77 v78 v79 v80 v81 v82 v83 v84 v85 v86 v87 v88 v89 v90 v91 v92 v93 v94 v95 v96 v97 v98 v99 v100 v101 v102 v103 v104 v105 v106 v107 v108 v109 v110 v111 v112 v113 v114 v115 v116 v117 v118 v119 v120 v121 v122 v123 v124 v125 v126 v127 v128 v129 v130 v131 v132 v133 v134 v135 v136 v137 v138 v139 v140 v141 v142 v143 v144 v145 v146 v147 v148 v149 v150 v151 v152 v153 v154 v155 v156 v157 v158 v159 v160 v161 v162 v163 v164 v165 v166 v167 v168 v169 v170 v171 v172 v173 v174 v175 v176 v177 v178 v179 v180 v181 v182 v183 v184 v185 v186 v187 v188 v189 v190 v191 v192 v193 v194 v195 v196 v197 v198 v199 v200 v201 v202 v203 v204 v205 v206 v207 v208 v209 v210 v211 v212 v213 v214 v215 v216 v217 v218 v219 v220 v221 v222 v223 v224 v225 v226 v227 v228 v229 v230 v231 v232 v233 v234 v235 v236 v237 v238 v239 v240 v241 v242 v243 v244 v245 v246 v247 v248 v249 v250 v251 v252 v253 v254 v255 v256 v257 v258 v259 v260 v261 v262 v263 v264 v265 v266 v267 v268 v269 v270 v271 v272 v273 v274 v275 v276 v277 v278 v279 v280 v281 v282 v283 v284 v285 v286 v287 v288 v289 v290 v291 v292 v293 v294 v295 v296 v297 v298 v299 v300 v301 v302 v303 v304 v305 v306 v307 v308 v309 v310 v311 v312 v313 v314 v315 v316 v317 v318 v319 v320 v321 v322 v323 v324 v325 v326 v327 v328 v329 v330 v331 v332 v333 v334 v335 v336 v337 v338 v339 v340 v341 v342 v343 v344 v345 v346 v347 v348 v349 v350 v351 v352 v353 v354 v355 v356 v357 v358 v359 v360 v361 v362 v363 v364 v365 v366 v367 v368 v369 v370 v371 v372 v373 v374 v375 v376 v377 v378 v379 v380 v381 v382 v383 v384 v385 v386 v387 v388 v389 v390 v391 v392 v393 v394 v395 v396 v397 v398 v399 v400 v401 v402 v403 v404 v405 v406 v407 v408 v409 v410 v411 v412 v413 v414 v415 v416 v417 v418 v419 v420 v421 v422 v423 v424 v425 v426 v427 v428 v429 v430 v431 v432 v433 : Value) (w' : World) (al : List En) (fl : List Fq), fl.length = fn → L1 w0 w' rb pm am tb fb tmo mp now fn F fn al fl → Code.wp Yba.prog (fromR 20 (Yba.f3.body.getD .skip)) (bodyPost Yba.prog Yba.f3 R) ⟨#[.int .i64 ts, .int .u8 mpb, .int .u16 now, .slice fa fn fc, .slice ma mn mc, .int .u8 pre, undef, undef, undef, undef, undef, undef, .bool false, .int .i64 mp, P2 decb 0, .int .i64 (rto tmo), P2 rb 0, P2 tb 0, v18, .slice (some ⟨fb, 0, none⟩) fn fn, v20, v21, v22, v23, v24, v25, v26, v27, v28, v29, v30, v31, v32, v33, v34, v35, v36, v37, v38, v39, v40, v41, v42, v43, v44, v45, v46, v47, v48, v49, v50, v51, v52, v53, v54, v55, v56, v57, v58, v59, v60, v61, v62, v63, v64, v65, v66, v67, v68, v69, v70, v71, v72, v73, v74, v75, v76, v77, v78, v79, v80, v81, v82, v83, v84, v85, v86, v87, v88, v89, v90, v91, v92, v93, v94, v95, v96, v97, v98, v99, v100, v101, v102, v103, v104, v105, v106, v107, v108, v109, v110, v111, v112, v113, v114, v115, v116, v117, v118, v119, v120, v121, v122, v123, v124, v125, v126, v127, v128, v129, v130, v131, v132, v133, v134, v135, v136, v137, v138, v139, v140, v141, v142, v143, v144, v145, v146, v147, v148, v149, v150, v151, v152, v153, v154, v155, v156, v157, v158, v159, v160, v161, v162, v163, v164, v165, v166, v167, v168, v169, v170, v171, v172, v173, v174, v175, v176, v177, v178, v179, v180, v181, v182, v183, v184, v185, v186, v187, v188, v189, v190, v191, v192, v193, v194, v195, v196, v197, v198, v199, v200, v201, v202, v203, v204, v205, v206, v207, v208, v209, v210, v211, v212, v213, v214, v215, v216, v217, v218, v219, v220, v221, v222, v223, v224, v225, v226, v227, v228, v229, v230, v231, v232, v233, v234, v235, v236, v237, v238, v239, v240, v241, v242, v243, v244, v245, v246, v247, v248, v249, v250, v251, v252, v253, v254, v255, v256, v257, v258, v259, v260, v261, v262, v263, v264, v265, v266, v267, v268, v269, v270, v271, v272, v273, v274, v275, v276, v277, v278, v279, v280, v281, v282, v283, v284, v285, v286, v287, v288, v289, v290, v291, v292, v293, v294, v295, v296, v297, v298, v299, v300, v301, v302, v303, v304, v305, v306, v307, v308, v309, v310, v311, v312, v313, v314, v315, v316, v317, v318, v319, v320, v321, v322, v323, v324, v325, v326, v327, v328, v329, v330, v331, v332, v333, v334, v335, v336, v337, v338, v339, v340, v341, v342, v343, v344, v345, v346, v347, v348, v349, v350, v351, v352, v353, v354, v355, v356, v357, v358, v359, v360, v361, v362, v363, v364, v365, v366, v367, v368, v369, v370, v371, v372, v373, v374, v375, v376, v377, v378, v379, v380, v381, v382, v383, v384, v385, v386, v387, v388, v389, v390, v391, v392, v393, v394, v395, v396, v397, v398, v399, v400, v401, v402, v403, v404, v405, v406, v407, v408, v409, v410, v411, v412, v413, v414, v415, v416, v417, v418, v419, v420, v421, v422, v423, v424, v425, v426, v427, v428, v429, v430, v431, v432, v433], []⟩ w') :
    Code.wp Yba.prog (fromR 13 (Yba.f3.body.getD .skip)) (bodyPost Yba.prog Yba.f3 R) ⟨#[.int .i64 ts, .int .u8 mpb, .int .u16 now, .slice fa fn fc, .slice ma mn mc, .int .u8 pre, undef, undef, undef, undef, undef, undef, .bool false, .int .i64 mp, P2 decb 0, .int .i64 (rto tmo), P2 rb 0, P2 tb 0, .int .i64 0, .slice (some ⟨fb, 0, none⟩) fn fn, v20, v21, v22, v23, v24, v25, v26, v27, v28, v29, v30, v31, v32, v33, v34, v35, v36, v37, v38, v39, v40, v41, v42, v43, v44, v45, v46, v47, v48, v49, v50, v51, v52, v53, v54, v55, v56, v57, v58, v59, v60, v61, v62, v63, v64, v65, v66, v67, v68, v69, v70, v71, v72, v73, v74, v75, v76, v77, v78, v79, v80, v81, v82, v83, v84, v85, v86, v87, v88, v89, v90, v91, v92, v93, v94, v95, v96, v97, v98, v99, v100, v101, v102, v103, v104, v105, v106, v107, v108, v109, v110, v111, v112, v113, v114, v115, v116, v117, v118, v119, v120, v121, v122, v123, v124, v125, v126, v127, v128, v129, v130, v131, v132, v133, v134, v135, v136, v137, v138, v139, v140, v141, v142, v143, v144, v145, v146, v147, v148, v149, v150, v151, v152, v153, v154, v155, v156, v157, v158, v159, v160, v161, v162, v163, v164, v165, v166, v167, v168, v169, v170, v171, v172, v173, v174, v175, v176, v177, v178, v179, v180, v181, v182, v183, v184, v185, v186, v187, v188, v189, v190, v191, v192, v193, v194, v195, v196, v197, v198, v199, v200, v201, v202, v203, v204, v205, v206, v207, v208, v209, v210, v211, v212, v213, v214, v215, v216, v217, v218, v219, v220, v221, v222, v223, v224, v225, v226, v227, v228, v229, v230, v231, v232, v233, v234, v235, v236, v237, v238, v239, v240, v241, v242, v243, v244, v245, v246, v247, v248, v249, v250, v251, v252, v253, v254, v255, v256, v257, v258, v259, v260, v261, v262, v263, v264, v265, v266, v267, v268, v269, v270, v271, v272, v273, v274, v275, v276, v277, v278, v279, v280, v281, v282, v283, v284, v285, v286, v287, v288, v289, v290, v291, v292, v293, v294, v295, v296, v297, v298, v299, v300, v301, v302, v303, v304, v305, v306, v307, v308, v309, v310, v311, v312, v313, v314, v315, v316, v317, v318, v319, v320, v321, v322, v323, v324, v325, v326, v327, v328, v329, v330, v331, v332, v333, v334, v335, v336, v337, v338, v339, v340, v341, v342, v343, v344, v345, v346, v347, v348, v349, v350, v351, v352, v353, v354, v355, v356, v357, v358, v359, v360, v361, v362, v363, v364, v365, v366, v367, v368, v369, v370, v371, v372, v373, v374, v375, v376, v377, v378, v379, v380, v381, v382, v383, v384, v385, v386, v387, v388, v389, v390, v391, v392, v393, v394, v395, v396, v397, v398, v399, v400, v401, v402, v403, v404, v405, v406, v407, v408, v409, v410, v411, v412, v413, v414, v415, v416, v417, v418, v419, v420, v421, v422, v423, v424, v425, v426, v427, v428, v429, v430, v431, v432, v433], []⟩ w := by
  dsimp only at h20 ⊢
  conv => arg 2; whnf
  unfold P2
  have HK : Hid _ := h20
  have HL : Hid _ := hL
  have HFB : Hid _ := hFb
  have HF : Hid _ := hF
  have HFA : Hid _ := hfa
  clear h20 hL hFb hF hfa
  go_wp2_with fail
  go_loopg [18, 20] fn (fun g a t wr => ∃ (i : Nat) (al : List En) (fl : List Fq), i ≤ fn ∧ g = fn - i ∧ a = .int .i64 (acc F i) ∧ t = .int .i64 i ∧ fl.length = i ∧ L1 w0 wr rb pm am tb fb tmo mp now fn F i al fl)
  case atStart => exact ⟨0, [], [], Nat.zero_le _, rfl, rfl, rfl, rfl, HL.out⟩
  case round =>
    obtain ⟨i, al, fl, hi, hg, rfl, rfl, hlen, hL⟩ := hrel
    have HL : Hid _ := hL
    clear hL
    by_cases hin : i < fn
    · obtain ⟨hfa, hfl⟩ := HFA.out (by omega)
      subst hfa
      have hc := (World.cell?_of_block (a := ⟨fbk, foff + i, none⟩) (HL.out.same.block fbk hfl)).trans (HF.out i hin)
      have hb := HFB.out i hin
      have hab := acc_bound HFB.out i (by omega)
      have hw1 : IntKind.i64.wrap (F i) = F i := by rw [IntKind.wrap_i64]; omega
      have hw2 : IntKind.i64.wrap (acc F i + F i) = acc F i + F i := by rw [IntKind.wrap_i64]; omega
      have hw3 : IntKind.i64.wrap (1048576 + (i : Int)) = 1048576 + (i : Int) := by rw [IntKind.wrap_i64]; omega
      have hw4 : IntKind.u32.wrap (1048576 + (i : Int)) = 1048576 + (i : Int) := by rw [IntKind.wrap_u32]; omega
      have r1 := HL.out.row.cell (i := i) hin
      have f1 := HL.out.row.frozen i
      go_upto_region 18 with fail
      have hL2 := HL.out.sec
      change L1 w0 (wr.setCell ⟨fb, i, none⟩ (.int .i64 (acc F i + F i))) _ _ _ _ _ _ _ _ _ _ _ _ _ at hL2
      have HL2 : Hid _ := hL2
      generalize hw2' : wr.setCell ⟨fb, i, none⟩ (.int .i64 (acc F i + F i)) = w2 at hL2 HL2 ⊢
      clear hw2' hL2 HL r1 f1 hc
      go_upto_region 19 with fail
      change Code.wp _ _ _ _ (w2.alloc (.cells (kc (fk i)).toArray 60))
      have hL3 := HL2.out.move ((Same.refl w2).alloc (.cells (kc (fk i)).toArray 60))
      have hk3 := heap_alloc_new w2 (.cells (kc (fk i)).toArray 60)
      obtain ⟨kb, hkb⟩ : ∃ kb, kb = w2.heap.size := ⟨_, rfl⟩
      rw [← hkb] at hk3 ⊢
      generalize hw3 : w2.alloc (.cells (kc (fk i)).toArray 60) = w3 at hL3 hk3 ⊢
      clear hw3 hkb HL2
      obtain ⟨C3, hR3⟩ := hL3.rs
      have c17 := (hR3.row.cell (i := 17) (by omega)).trans (congrArg some hR3.rc.c17)
      have hS3 : S19 rb am tb kb i w3.drew := s19_of (w := w3) c17 hL3.base hk3
      have hwm : IntKind.i64.wrap ((acc F i + F i) * 1000000000) = (acc F i + F i) * 1000000000 := by rw [IntKind.wrap_i64]; omega
      have HADD : Hid (∀ w', Same w3 w' → Calls Yba.prog 6 #[.agg #[.int .u64 0, .int .i64 0, .pointer none], .int .i64 ((acc F i + F i) * 1000000000)] w' fun r w'' => r = .returned (.agg #[.int .u64 0, .int .i64 (acc F i + F i), .pointer none]) ∧ Same w3 w'' ∧ S19 rb am tb kb i w'') := by
        intro w' hw'
        refine (add_any w' 0 (acc F i + F i) (by omega) (by omega) (by omega) (by omega)).mono ?_
        rintro r w'' ⟨rfl, hS⟩
        have hS' := hw'.trans hS
        refine ⟨by rw [Int.zero_add]; rfl, hS', ?_⟩
        have hR' := hR3.same hS'
        exact s19_of ((hR'.row.cell (i := 17) (by omega)).trans (congrArg some hR'.rc.c17)) ((hS'.block tb (lt_of_block hL3.base)).trans hL3.base) ((hS'.block kb (lt_of_block hk3)).trans hk3)
      have HPU : Hid (∀ w', Same w3 w' → Calls Yba.prog 7 #[.pointer (some ⟨rb, 18, none⟩), .iface 63 (.agg #[.int .u64 0, .int .u64 0, .pointer none, .int .u16 0, .int .u64 0, .int .u64 0, .pointer none, .int .u16 0, .int .u32 (1048576 + (i : Int)), .int .u64 0, .int .i64 (acc F i + F i), .pointer none])] w' fun e w6 => ∃ w7, e = .returned (P2 w'.heap.size 0) ∧ (∀ N, (Instr.mapUpdate 43 (.map (some am)) (kv (fk i)) (P2 w'.heap.size 0)).run Yba.prog (w6.drewN N) = .ok () (w7.drewN N)) ∧ S19 rb am tb kb i w6 ∧ S19 rb am tb kb i w7 ∧ ∃ al' nb, L1 w0 w7 rb pm am tb fb tmo mp now fn F (i + 1) al' (fl ++ [⟨nb, fk i, 0, acc F (i + 1)⟩])) := by
        intro w' hw'
        have := fill_push (hL3.move hw') kb (by rw [hlen]; exact (hw'.block kb (lt_of_block hk3)).trans hk3) (by omega)
        rw [hlen] at this
        exact this
      have HL3 : Hid _ := hL3
      have HS3 : Hid _ := hS3
      clear hL3 hk3 hR3 c17 hS3
      go_region_held3 (fun w' => w'.cell? ⟨rb, 17, none⟩ = some (.map (some am)) ∧ w'.cell? ⟨tb, 0, none⟩ = some (.int .u64 0) ∧ w'.cell? ⟨tb, 1, none⟩ = some (.int .i64 0) ∧ w'.cell? ⟨tb, 2, none⟩ = some (.pointer none) ∧
          w'.cell? ⟨kb, 0, none⟩ = some (.int .u64 0) ∧ w'.cell? ⟨kb, 1, none⟩ = some (.int .u64 0) ∧ w'.cell? ⟨kb, 2, none⟩ = some (.pointer none) ∧ w'.cell? ⟨kb, 3, none⟩ = some (.int .u16 0) ∧ w'.cell? ⟨kb, 4, none⟩ = some (.int .u64 0) ∧ w'.cell? ⟨kb, 5, none⟩ = some (.int .u64 0) ∧ w'.cell? ⟨kb, 6, none⟩ = some (.pointer none) ∧ w'.cell? ⟨kb, 7, none⟩ = some (.int .u16 0) ∧ w'.cell? ⟨kb, 8, none⟩ = some (.int .u32 (1048576 + (i : Int))))
        (first | exact HS3.out | assumption)
        (first | (go_at_call 6; refine (HADD.out _ (Same.refl w3).drew).mono ?_; rintro r w5 ⟨rfl, hS5, hT5⟩; have HS5 : Hid (Same w3 w5) := hS5; unfold S19 at hT5; clear hS5) | (go_at_call 7; refine (HPU.out _ HS5.out).mono ?_; rintro r w6 ⟨w7, rfl, hup, hT6, hT7, al', nb, hL7⟩; have HL7 : Hid _ := hL7; have hup0 := hup 0; simp only [World.drewN_zero, kv, kc, fk] at hup0; unfold P2 at hup0; unfold S19 at hT6 hT7; clear hup hL7))
      clear hT6 hT7 hup0 HADD HPU HS3 HL3
      have hw9 : IntKind.i64.wrap ((i : Int) + 1) = (i : Int) + 1 := by rw [IntKind.wrap_i64]; omega
      go_wp2
      go_roundg (fn - (i + 1))
      case measure => omega
      case rel => exact ⟨i + 1, al', _, by omega, rfl, rfl, by simp, by simp [hlen], HL7.out⟩
    · have hie : i = fn := by omega
      subst hie
      go_upto_if 87 with fail
      refine wp_cond_false (by rfl) (wp_exit ?_)
      simp only [Exit.then, Exit.inBlock, if_true]
      apply_assumption
      exact HK.out _ _ _ _ _ _ _ _ _ _ _ _ _ _ _ _ _ _ _ _ _ _ _ _ _ _ _ _ _ _ _ _ _ _ _ _ _ _ _ _ _ _ _ _ _ _ _ _ _ _ _ _ _ _ _ _ _ _ _ _ _ _ _ _ _ _ _ _ _ _ _ _ _ _ _ _ _ _ _ _ _ _ _ _ _ _ _ _ _ _ _ _ _ _ _ _ _ _ _ _ _ _ _ _ _ _ _ _ _ _ _ _ _ _ _ _ _ _ _ _ _ _ _ _ _ _ _ _ _ _ _ _ _ _ _ _ _ _ _ _ _ _ _ _ _ _ _ _ _ _ _ _ _ _ _ _ _ _ _ _ _ _ _ _ _ _ _ _ _ _ _ _ _ _ _ _ _ _ _ _ _ _ _ _ _ _ _ _ _ _ _ _ _ _ _ _ _ _ _ _ _ _ _ _ _ _ _ _ _ _ _ _ _ _ _ _ _ _ _ _ _ _ _ _ _ _ _ _ _ _ _ _ _ _ _ _ _ _ _ _ _ _ _ _ _ _ _ _ _ _ _ _ _ _ _ _ _ _ _ _ _ _ _ _ _ _ _ _ _ _ _ _ _ _ _ _ _ _ _ _ _ _ _ _ _ _ _ _ _ _ _ _ _ _ _ _ _ _ _ _ _ _ _ _ _ _ _ _ _ _ _ _ _ _ _ _ _ _ _ _ _ _ _ _ _ _ _ _ _ _ _ _ _ _ _ _ _ _ _ _ _ _ _ _ _ _ _ _ _ _ _ _ _ _ _ _ _ _ _ _ _ _ _ _ _ _ _ _ _ _ _ _ _ _ _ _ _ _ _ _ _ _ _ _ _ _ _ _ _ _ _ _ _ _ _ _ _ _ _ _ _ _ _ _ _ _ _ _ _ _ _ _ _ _ _ _ al fl hlen HL.out
end Go.Proofs.Ybulkakzc
