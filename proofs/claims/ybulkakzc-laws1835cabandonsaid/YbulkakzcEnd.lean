/-
  THE LAW OF ABANDONING (seat b1835a): the law's end.
-/
import Derived.Test.YbulkakzcBody3
import Derived.BigQuiet
namespace Go.Proofs.Ybulkakzc
open Go.RowKit
set_option linter.unusedSimpArgs false

set_option maxRecDepth 100000 in
set_option maxHeartbeats 8000000 in
theorem law_end (w0 w : World) (a c : Int) (ao : Option Addr) (n cap : Nat) (m L tot : Int) (pf : Nat) (rb pm am mo qb : Nat) (pk : Int) (al ml : List En) (fl : List Fq) (qv : Value) (v15 v16 v17 v18 v19 v20 v21 v22 v23 v24 v25 v26 v27 v28 v29 v30 v31 v32 v33 v34 v35 v36 v37 v38 v39 v40 v41 v42 v43 v44 v45 v46 v47 v48 v49 v50 v51 v52 v53 v54 v55 v56 v57 v58 v59 v60 v61 v62 v63 v64 v65 v66 v67 v68 v69 v70 v71 v72 v73 v74 v75 v76 v77 v78 v79 v80 v81 v82 v83 v84 v85 v86 v87 v88 v89 v90 v91 v92 v93 v94 v95 v96 v97 v98 v99 v100 v101 v102 v103 v104 v105 v106 v107 v108 v109 v110 v111 v112 v113 v114 v115 v116 v117 v118 v119 v120 v121 v122 v123 v124 v125 v126 v127 v128 v129 v130 v131 v132 v133 v134 v135 v136 v137 v138 v139 v140 v141 v142 v143 v144 v145 v146 v147 v148 v149 v150 v151 v152 v153 v154 v155 v156 v157 v158 v159 v160 v161 v162 v163 v164 v165 v166 v167 v168 v169 v170 v171 v172 v173 v174 v175 v176 v177 v178 v179 v180 v181 v182 v183 v184 v185 v186 v187 v188 v189 v190 v191 v192 v193 v194 v195 v196 v197 v198 v199 v200 v201 v202 v203 v204 v205 v206 v207 v208 v209 v210 v211 v212 v213 v214 v215 v216 v217 v218 v219 v220 v221 v222 v223 v224 v225 v226 v227 v228 v229 v230 v231 v232 v233 v234 v235 v236 v237 v238 v239 v240 v241 v242 v243 v244 v245 v246 v247 v248 v249 v250 v251 v252 v253 v254 v255 v256 v257 v258 v259 v260 v261 v262 v263 v264 v265 v266 v267 v268 v269 v270 v271 v272 v273 v274 v275 v276 v277 v278 v279 v280 v281 v282 v283 v284 v285 v286 v287 v288 v289 v290 v291 v292 v293 v294 v295 v296 v297 v298 v299 v300 v301 v302 v303 v304 v305 v306 v307 v308 v309 v310 v311 v312 v313 v314 v315 v316 v317 v318 v319 v320 v321 v322 v323 : Value)
    (hm : m = 0 ∨ m = 1 ∨ m = 2) (hI : Inv w0 w rb pm am mo qb m pk al ml fl qv) :
    Code.wp Yba.prog (fromR 54 (Yba.f4.body.getD .skip)) (bodyPost Yba.prog Yba.f4 (fun e w' => e = .returned (.bool true) ∧ Same w0 w')) ⟨#[.int .u8 a, .int .u8 c, .slice ao n cap, undef, undef, undef, .bool false, .int .i64 m, P2 rb 0, .int .i64 L, .int .i64 (pf : Int), .int .i64 tot, qv, .map (some mo), .int .i64 pk, v15, v16, v17, v18, v19, v20, v21, v22, v23, v24, v25, v26, v27, v28, v29, v30, v31, v32, v33, v34, v35, v36, v37, v38, v39, v40, v41, v42, v43, v44, v45, v46, v47, v48, v49, v50, v51, v52, v53, v54, v55, v56, v57, v58, v59, v60, v61, v62, v63, v64, v65, v66, v67, v68, v69, v70, v71, v72, v73, v74, v75, v76, v77, v78, v79, v80, v81, v82, v83, v84, v85, v86, v87, v88, v89, v90, v91, v92, v93, v94, v95, v96, v97, v98, v99, v100, v101, v102, v103, v104, v105, v106, v107, v108, v109, v110, v111, v112, v113, v114, v115, v116, v117, v118, v119, v120, v121, v122, v123, v124, v125, v126, v127, v128, v129, v130, v131, v132, v133, v134, v135, v136, v137, v138, v139, v140, v141, v142, v143, v144, v145, v146, v147, v148, v149, v150, v151, v152, v153, v154, v155, v156, v157, v158, v159, v160, v161, v162, v163, v164, v165, v166, v167, v168, v169, v170, v171, v172, v173, v174, v175, v176, v177, v178, v179, v180, v181, v182, v183, v184, v185, v186, v187, v188, v189, v190, v191, v192, v193, v194, v195, v196, v197, v198, v199, v200, v201, v202, v203, v204, v205, v206, v207, v208, v209, v210, v211, v212, v213, v214, v215, v216, v217, v218, v219, v220, v221, v222, v223, v224, v225, v226, v227, v228, v229, v230, v231, v232, v233, v234, v235, v236, v237, v238, v239, v240, v241, v242, v243, v244, v245, v246, v247, v248, v249, v250, v251, v252, v253, v254, v255, v256, v257, v258, v259, v260, v261, v262, v263, v264, v265, v266, v267, v268, v269, v270, v271, v272, v273, v274, v275, v276, v277, v278, v279, v280, v281, v282, v283, v284, v285, v286, v287, v288, v289, v290, v291, v292, v293, v294, v295, v296, v297, v298, v299, v300, v301, v302, v303, v304, v305, v306, v307, v308, v309, v310, v311, v312, v313, v314, v315, v316, v317, v318, v319, v320, v321, v322, v323], []⟩ w := by
  dsimp only
  conv => arg 2; whnf
  unfold P2
  have hlim : 1 ≤ lim m ∧ lim m ≤ 64 := by unfold lim; split <;> omega
  have hlen : fl.length < 100000 := by have := hI.le; omega
  obtain ⟨C, hR⟩ := hI.core.rs
  have hlo := listok_any w rb pm am C 0 m 0 0 0 pk [] al [] fl qv qb hR hI.core.q hI.zero hlen
  have HI : Hid (Inv w0 w rb pm am mo qb m pk al ml fl qv) := hI
  clear hI hR
  go_wp2_with fail
  refine hlo.mono ?_
  rintro e w1 ⟨rfl, hS1⟩
  dsimp only
  clear hlo
  have hC1 := HI.out.core.same hS1
  obtain ⟨C, hR⟩ := hC1.rs
  have c17 := (hR.row.cell (i := 17) (by omega)).trans (congrArg some hR.rc.c17)
  obtain ⟨ca, ham⟩ := hR.amap
  obtain ⟨cm, hmo⟩ := hC1.mod
  have hl1 := fun ty => len_run 43 37 Yba.underlying43 ham ty
  have hl2 := fun ty => len_run 97 4 Yba.underlying97 hmo ty
  have hll : al.length = ml.length := by
    have := congrArg List.length HI.out.keys
    simpa [keysOf] using this.symm
  rw [hll] at hl1
  obtain ⟨qao, qoff, qcap, hqv, hqm, hqc, hqlt⟩ := hC1.q.came
  rw [List.length_map] at hqv
  subst hqv
  have hqle := hqc.le
  rw [List.length_map] at hqle
  have HQC : Hid _ := hqc
  have HC1 : Hid (Core w0 w1 rb pm am mo qb m pk al ml fl (.slice qao fl.length qcap) (fl.map (·.k))) := hC1
  have HAM : Hid (w1.heap[am]? = some (.map (ents al) ca)) := ham
  have HMO : Hid (w1.heap[mo]? = some (.map (ents ml) cm)) := hmo
  have HRW : Hid (w1.cell? ⟨rb, 17, none⟩ = some (.map (some am)) ∧ rb < w1.heap.size) := ⟨c17, hR.row.lt⟩
  clear hqc hC1 ham hmo hR hS1
  go_wp2_with fail
  clear hl1 hl2 c17
  go_loopg [25] fl.length (fun g t wr => ∃ j : Nat, j ≤ fl.length ∧ g = fl.length - j ∧ t = .int .i64 j ∧ Same w1 wr)
  case atStart => exact ⟨0, Nat.zero_le _, rfl, rfl, Same.refl _⟩
  case round =>
    obtain ⟨j, hj, hg, rfl, hS⟩ := hrel
    by_cases hjn : j < fl.length
    · have hx : fl[j]? = some fl[j] := List.getElem?_eq_getElem hjn
      generalize fl[j] = y at hx
      have hqb : qb < w1.heap.size := HC1.out.q6
      have hat := (Qs.at HQC.out j y.k (by simp [hx])).of_block (hS.block qb hqb)
      obtain ⟨q0, q1, q2, q3, q4, q5, q6, q7, q8⟩ := hat
      have hao := HQC.out.addr (by omega)
      subst hao
      have c17 : wr.cell? ⟨rb, 17, none⟩ = some (.map (some am)) := (World.cell?_of_block (a := ⟨rb, 17, none⟩) (hS.block rb HRW.out.2)).trans HRW.out.1
      have ham := (hS.block am (lt_of_block HAM.out)).trans HAM.out
      have hmo := (hS.block mo (lt_of_block HMO.out)).trans HMO.out
      have hlk := fun N => lookup_run (w := wr) 43 37 Yba.underlying43 (.pointer none) (fun w => by kernel_rfl) ham y.k true N
      have hlm := fun N => lookup_run (w := wr) 97 4 Yba.underlying97 (.bool false) (fun w => by kernel_rfl) hmo y.k false N
      have htr := HI.out.tr.get (k := y.k)
      have hsm : (get y.k ml).isSome = (get y.k al).isSome := by rw [get_isSome, get_isSome, HI.out.keys]
      rw [htr, hsm] at hlm
      simp only [if_true, Bool.false_eq_true, if_false, kv, kc] at hlk hlm
      generalize (get y.k al).getD (.pointer none) = pv at hlk
      generalize (get y.k al).isSome = bo at hlk hlm
      have HS : Hid (Same w1 wr) := hS
      clear hx htr hsm hS ham hmo
      go_upto_region 61 with fail
      go_quiet (fail)
      go_wp2
      go_roundg (fl.length - (j + 1))
      case measure => omega
      case rel => exact ⟨j + 1, by omega, rfl, by simp, HS.out.trans (same_drewN wr nq)⟩
    · have e1 : decide ((j : Int) < (fl.length : Int)) = false := by simp; omega
      have HS : Hid (Same w1 wr) := hS
      clear hS
      go_wp2
      go_ret
      exact ⟨rfl, HC1.out.old.trans HS.out⟩
end Go.Proofs.Ybulkakzc
