/-
  THE LAW OF EXPIRING (seat b1835a): its end.
-/
import Derived.Test.YbulkakzcSeg39
import Derived.BigQuiet
import Derived.Test.YbulkakzcBody3
namespace Go.Proofs.Ybulkakzc
open Go.RowKit
set_option linter.unusedSimpArgs false

set_option maxRecDepth 100000 in
set_option maxHeartbeats 8000000 in
theorem seg74 (w0 w2 : World) (ts mpb now pre : Int) (fa : Option Addr) (fn fc : Nat) (ma : Option Addr) (mn mc : Nat) (mp tmo : Int) (decb rb tb fb : Nat) (pm am k mbk moff ob : Nat) (ov : Value) (pk : Int) (al' pl' : List En) (fl' : List Fq) (M : Nat → Mg) (ms : List Ms) (out : List Dg) (R : Ending → World → Prop) (v12 v18 v20 v21 v22 v23 v24 v25 v26 v27 v28 v29 v30 v31 v32 v35 v37 v38 v39 v40 v41 v42 v43 v44 v45 v46 v47 v48 v49 v50 v51 v52 v53 v54 v55 v56 v57 v58 v59 v60 v61 v62 v63 v64 v65 v66 v67 v68 v69 v70 v71 v72 v73 v74 v75 v76 v77 v78 v79 v80 v81 v82 v83 v84 v85 v86 v87 v88 v89 v90 v91 v92 v93 v94 v95 v96 v97 v98 v99 v100 v101 v102 v103 v104 v105 v106 v107 v108 v109 v110 v111 v112 v113 v114 v115 v116 v117 v118 v119 v120 v121 v122 v123 v124 v125 v126 v127 v128 v129 v130 v131 v132 v133 v134 v135 v136 v137 v138 v139 v140 v141 v142 v143 v144 v145 v146 v147 v148 v149 v150 v151 v152 v153 v154 v155 v156 v157 v158 v159 v160 v161 v162 v163 v164 v165 v166 v167 v168 v169 v170 v171 v172 v173 v174 v175 v176 v177 v178 v179 v180 v181 v182 v183 v184 v185 v186 v187 v188 v189 v190 v191 v192 v193 v194 v195 v196 v197 v198 v199 v200 v201 v202 v203 v204 v205 v206 v207 v208 v209 v210 v211 v212 v213 v214 v215 v216 v217 v218 v219 v220 v221 v222 v223 v224 v225 v226 v227 v228 v229 v230 v231 v232 v233 v234 v235 v236 v237 v238 v239 v240 v241 v242 v243 v244 v245 v246 v247 v248 v249 v250 v251 v252 v253 v254 v255 v256 v257 v258 v259 v260 v261 v262 v263 v264 v265 v266 v267 v268 v269 v270 v271 v272 v273 v274 v275 v276 v277 v278 v279 v280 v281 v282 v283 v284 v285 v286 v287 v288 v289 v290 v291 v292 v293 v294 v295 v296 v297 v298 v299 v300 v301 v302 v303 v304 v305 v306 v307 v308 v309 v310 v311 v312 v313 v314 v315 v316 v317 v318 v319 v320 v321 v322 v323 v324 v325 v326 v327 v328 v329 v330 v331 v332 v333 v334 v335 v336 v337 v338 v339 v340 v341 v342 v343 v344 v345 v346 v347 v348 v349 v350 v351 v352 v353 v354 v355 v356 v357 v358 v359 v360 v361 v362 v363 v364 v365 v366 v367 v368 v369 v370 v371 v372 v373 v374 v375 v376 v377 v378 v379 v380 v381 v382 v383 v384 v385 v386 v387 v388 v389 v390 v391 v392 v393 v394 v395 v396 v397 v398 v399 v400 v401 v402 v403 v404 v405 v406 v407 v408 v409 v410 v411 v412 v413 v414 v415 v416 v417 v418 v419 v420 v421 v422 v423 v424 v425 v426 v427 v428 v429 v430 v431 v432 v433 : Value)
    (hk : k ≤ mn) (hml : ms.length = mn) (hmn : mn ≤ 1024) (hS : Same w0 w2) (hE : ∃ wE B, E2 wE w2 B rb pm am tmo mp now pk al' pl' (ms.drop k) fl' ov ob out) (hM : Imp w0 ma mn mbk moff M) (hmk : ∀ j x, ms[j]? = some x → x.k = mk_ j ∧ x.cost = (M j).c)
    (hR : ∀ w3, Same w0 w3 → R (.returned (.bool true)) w3) :
    Code.wp Yba.prog (fromR 74 (Yba.f3.body.getD .skip)) (bodyPost Yba.prog Yba.f3 R) ⟨#[.int .i64 ts, .int .u8 mpb, .int .u16 now, .slice fa fn fc, .slice ma mn mc, .int .u8 pre, undef, undef, undef, undef, undef, undef, v12, .int .i64 mp, P2 decb 0, .int .i64 (rto tmo), P2 rb 0, P2 tb 0, v18, .slice (some ⟨fb, 0, none⟩) fn fn, v20, v21, v22, v23, v24, v25, v26, v27, v28, v29, v30, v31, v32, .int .i64 (fl'.length : Int), .int .i64 (k : Int), v35, .int .i64 pk, v37, v38, v39, v40, v41, v42, v43, v44, v45, v46, v47, v48, v49, v50, v51, v52, v53, v54, v55, v56, v57, v58, v59, v60, v61, v62, v63, v64, v65, v66, v67, v68, v69, v70, v71, v72, v73, v74, v75, v76, v77, v78, v79, v80, v81, v82, v83, v84, v85, v86, v87, v88, v89, v90, v91, v92, v93, v94, v95, v96, v97, v98, v99, v100, v101, v102, v103, v104, v105, v106, v107, v108, v109, v110, v111, v112, v113, v114, v115, v116, v117, v118, v119, v120, v121, v122, v123, v124, v125, v126, v127, v128, v129, v130, v131, v132, v133, v134, v135, v136, v137, v138, v139, v140, v141, v142, v143, v144, v145, v146, v147, v148, v149, v150, v151, v152, v153, v154, v155, v156, v157, v158, v159, v160, v161, v162, v163, v164, v165, v166, v167, v168, v169, v170, v171, v172, v173, v174, v175, v176, v177, v178, v179, v180, v181, v182, v183, v184, v185, v186, v187, v188, v189, v190, v191, v192, v193, v194, v195, v196, v197, v198, v199, v200, v201, v202, v203, v204, v205, v206, v207, v208, v209, v210, v211, v212, v213, v214, v215, v216, v217, v218, v219, v220, v221, v222, v223, v224, v225, v226, v227, v228, v229, v230, v231, v232, v233, v234, v235, v236, v237, v238, v239, v240, v241, v242, v243, v244, v245, v246, v247, v248, v249, v250, v251, v252, v253, v254, v255, v256, v257, v258, v259, v260, v261, v262, v263, v264, v265, v266, v267, v268, v269, v270, v271, v272, v273, v274, v275, v276, v277, v278, v279, v280, v281, v282, v283, v284, v285, v286, v287, v288, v289, v290, v291, v292, v293, v294, v295, v296, v297, v298, v299, v300, v301, v302, v303, v304, v305, v306, v307, v308, v309, v310, v311, v312, v313, v314, v315, v316, v317, v318, v319, v320, v321, v322, v323, v324, v325, v326, v327, v328, v329, v330, v331, v332, v333, v334, v335, v336, v337, v338, v339, v340, v341, v342, v343, v344, v345, v346, v347, v348, v349, v350, v351, v352, v353, v354, v355, v356, v357, v358, v359, v360, v361, v362, v363, v364, v365, v366, v367, v368, v369, v370, v371, v372, v373, v374, v375, v376, v377, v378, v379, v380, v381, v382, v383, v384, v385, v386, v387, v388, v389, v390, v391, v392, v393, v394, v395, v396, v397, v398, v399, v400, v401, v402, v403, v404, v405, v406, v407, v408, v409, v410, v411, v412, v413, v414, v415, v416, v417, v418, v419, v420, v421, v422, v423, v424, v425, v426, v427, v428, v429, v430, v431, v432, v433], []⟩ w2 := by
  dsimp only
  conv => arg 2; whnf
  unfold P2
  have HR : Hid _ := hR
  have HS : Hid _ := hS
  have HM : Hid _ := hM
  have HMK : Hid _ := hmk
  have HE : Hid _ := hE
  have HCB : Hid (∀ x ∈ ms, 0 ≤ x.cost ∧ x.cost ≤ 1000) := by
    intro x hx
    obtain ⟨j, hj, rfl⟩ := List.getElem_of_mem hx
    have h1 := (hmk j _ (List.getElem?_eq_getElem hj)).2
    have h2 := hM.ok j (by omega)
    have h3 := h2.c0
    have h4 := h2.c1
    omega
  clear hR hS hM hmk hE
  go_wp2_with fail
  go_loopg [42, 43] (mn - k) (fun g h t wr => ∃ i : Nat, k ≤ i ∧ i ≤ mn ∧ g = mn - i ∧ t = .int .i64 i ∧ h = .int .i64 (sumc (ms.drop k) - sumc (ms.drop i)) ∧ wr = w2)
  case atStart => exact ⟨k, Nat.le_refl _, hk, rfl, rfl, by simp, rfl⟩
  case round =>
    obtain ⟨i, hki, hi, hg, rfl, rfl, hwr⟩ := hrel
    rw [hwr]
    clear hwr
    have hbk := sumc_bound (ms.drop k) (fun y hy => HCB.out y (List.mem_of_mem_drop hy))
    have hbi := sumc_bound (ms.drop i) (fun y hy => HCB.out y (List.mem_of_mem_drop hy))
    have hlk : (ms.drop k).length ≤ 1024 := by simp; omega
    have hli : (ms.drop i).length ≤ 1024 := by simp; omega
    by_cases hin : i < mn
    · have hkm : i < ms.length := by omega
      have hdr : ms.drop i = ms[i] :: ms.drop (i + 1) := List.drop_eq_getElem_cons hkm
      have hco := (HMK.out i _ (List.getElem?_eq_getElem hkm)).2
      have hst : sumc (ms.drop i) = (M i).c + sumc (ms.drop (i + 1)) := by rw [hdr]; simp only [sumc]; rw [hco]
      have hma := HM.out.addr (by omega)
      subst hma
      have hml' := HM.out.lt (by omega)
      obtain ⟨q0, q1, q2, q3⟩ := (HM.out.at_ i (by omega)).of_block (HS.out.block mbk hml')
      have hok := HM.out.ok i (by omega)
      have hc0 := hok.c0
      have hc1 := hok.c1
      have hw1 : IntKind.i64.wrap (M i).c = (M i).c := by rw [IntKind.wrap_i64]; omega
      have hw2 : IntKind.i64.wrap (sumc (ms.drop k) - sumc (ms.drop i) + (M i).c) = sumc (ms.drop k) - sumc (ms.drop i) + (M i).c := by rw [IntKind.wrap_i64]; omega
      have hw3 : IntKind.i64.wrap ((i : Int) + 1) = (i : Int) + 1 := by rw [IntKind.wrap_i64]; omega
      have HST : Hid _ := hst
      clear hst hdr hco q0 q2 q3 hok
      go_wp2
      go_roundg (mn - (i + 1))
      case measure => omega
      case rel => exact ⟨i + 1, by omega, by omega, rfl, by simp, by rw [HST.out]; congr 1; omega, rfl⟩
    · have hie : i = mn := by omega
      subst hie
      have hdn : sumc (ms.drop i) = 0 := by rw [List.drop_eq_nil_of_le (by omega)]; rfl
      rw [hdn, Int.sub_zero]
      clear hbi hli hdn
      obtain ⟨wE, B, hE⟩ := HE.out
      obtain ⟨C, hRS⟩ := hE.rs
      have c15 := (hRS.row.cell (i := 11 + 4) (by omega)).trans (congrArg some hRS.qs.len)
      rw [sts_length, List.length_drop, hml] at c15
      have c10 := (hRS.row.cell (i := 10) (by omega)).trans (congrArg some hRS.rc.c10)
      have c16 := (hRS.row.cell (i := 16) (by omega)).trans (congrArg some hRS.rc.c16)
      have c17 := (hRS.row.cell (i := 17) (by omega)).trans (congrArg some hRS.rc.c17)
      have c25 := (hRS.row.cell (i := 25) (by omega)).trans (congrArg some hRS.rc.c25)
      have c22 := (hRS.row.cell (i := 18 + 4) (by omega)).trans (congrArg some hRS.qf.len)
      rw [fgs_length] at c22
      obtain ⟨cp, hp⟩ := hRS.pmap
      obtain ⟨ca, ha⟩ := hRS.amap
      have hl1 := fun ty => len_run 36 66 Yba.underlying36 hp ty
      have hl2 := fun ty => len_run 43 37 Yba.underlying43 ha ty
      have hpl : pl'.length = i - k := by
        have := hE.pperm.length_eq
        simp only [keysOf, List.length_map, List.length_drop] at this
        omega
      have hal : al'.length = fl'.length := by
        have := hE.aperm.length_eq
        simpa [keysOf] using this
      rw [hpl] at hl1
      rw [hal] at hl2
      have hsub : (i : Int) - (k : Int) = ((i - k : Nat) : Int) := by omega
      have hw4 : IntKind.i64.wrap ((i - k : Nat) : Int) = ((i - k : Nat) : Int) := by rw [IntKind.wrap_i64]; omega
      have HE2 : Hid _ := hE
      have HRS : Hid _ := hRS
      clear hp ha hE hRS hpl hal hbk hlk
      generalize hhd : sumc (ms.drop k) = hd at *
      clear hhd
      go_wp2_with fail
      refine (len_any _ rb 11 _ c15).mono ?_
      rintro e w5 ⟨rfl, rfl⟩
      dsimp only
      go_upto_if 386 with fail
      clear c15 c10 c16 hl1 hsub hw4
      go_cut [] from 354 to 409 (fun wx => wx = w2)
      case first =>
        by_cases hki' : k < i
        · have hkm : k < ms.length := by omega
          have hx : ms[k]? = some ms[k] := List.getElem?_eq_getElem hkm
          have hdr : ms.drop k = ms[k] :: ms.drop (k + 1) := List.drop_eq_getElem_cons hkm
          have hkk := (HMK.out k _ hx).1
          generalize ms[k] = x at hx hdr hkk
          have hfr := front_nx w2 rb 11 C (sts (ms.drop k)) (by omega) HRS.out.row HRS.out.qs
          rw [hdr] at hfr
          have hring := HRS.out
          rw [hdr] at hring
          have hblk := hring.ringS.chain.1
          have hmsg := HE2.out.msg x (by rw [hdr]; exact List.mem_cons_self)
          have e3 := cell_of_heap hblk 3 (.iface 66 (.pointer (some ⟨x.mb, 0, none⟩))) rfl
          have m8 := cell_of_heap hmsg 8 (.int .u32 x.k.i) rfl
          rw [hkk] at m8
          simp only [mk_] at m8
          simp only [sts, List.map_cons, nx] at hfr
          unfold P2 at hfr
          have e1 : decide ((k : Int) < (i : Int)) = true := by simp; omega
          have hw6 : IntKind.u32.wrap (k : Int) = (k : Int) := by rw [IntKind.wrap_u32]; omega
          have ta := assert66ok
          clear hx hdr hkk hring hblk hmsg
          go_wp2_with fail
          refine hfr.mono ?_
          rintro e w5 ⟨rfl, rfl⟩
          dsimp only
          clear hfr
          go_wp2
          go_meet
          case rel => rfl
        · have e1 : decide ((k : Int) < (i : Int)) = false := by simp; omega
          go_wp2
          go_meet
          case rel => rfl
      case rest =>
        rw [hcut]
        go_wp2_with fail
        refine (len_any _ rb 18 _ c22).mono ?_
        rintro e w5 ⟨rfl, rfl⟩
        dsimp only
        go_wp2
        exact HR.out _ HS.out
end Go.Proofs.Ybulkakzc
