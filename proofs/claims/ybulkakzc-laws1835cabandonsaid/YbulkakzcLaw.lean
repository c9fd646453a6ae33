/-
  THE LAW OF ABANDONING (seat b1835a): the law.
-/
import Derived.Test.YbulkakzcBody
import Derived.Test.YbulkakzcEnd
import Derived.Carry
namespace Go.Proofs.Ybulkakzc
open Go.RowKit
set_option linter.unusedSimpArgs false

attribute [local go_sem] run_makeMap

/-- What holds at the loop's head. -/
def Head (w0 : World) (a c : Int) (ao : Option Addr) (n cap : Nat) (m L : Int) (tot : Int) (pf : Nat) (rb pm am mo : Nat) (T : Nat) (g : Nat) (A : Act) (w : World) : Prop :=
  ∃ (f : Nat → Value) (i qb : Nat) (pk : Int) (al ml : List En) (fl : List Fq) (qv : Value), i ≤ T ∧ g = T - i ∧ Inv w0 w rb pm am mo qb m pk al ml fl qv ∧ A = ⟨#[.int .u8 a, .int .u8 c, .slice ao n cap, undef, undef, undef, .bool false, .int .i64 m, P2 rb 0, .int .i64 L, .int .i64 (pf : Int), .int .i64 tot, qv, .map (some mo), .int .i64 pk, .int .i64 i, f 16, f 17, f 18, f 19, f 20, f 21, f 22, f 23, f 24, f 25, f 26, f 27, f 28, f 29, f 30, f 31, f 32, f 33, f 34, f 35, f 36, f 37, f 38, f 39, f 40, f 41, f 42, f 43, f 44, f 45, f 46, f 47, f 48, f 49, f 50, f 51, f 52, f 53, f 54, f 55, f 56, f 57, f 58, f 59, f 60, f 61, f 62, f 63, f 64, f 65, f 66, f 67, f 68, f 69, f 70, f 71, f 72, f 73, f 74, f 75, f 76, f 77, f 78, f 79, f 80, f 81, f 82, f 83, f 84, f 85, f 86, f 87, f 88, f 89, f 90, f 91, f 92, f 93, f 94, f 95, f 96, f 97, f 98, f 99, f 100, f 101, f 102, f 103, f 104, f 105, f 106, f 107, f 108, f 109, f 110, f 111, f 112, f 113, f 114, f 115, f 116, f 117, f 118, f 119, f 120, f 121, f 122, f 123, f 124, f 125, f 126, f 127, f 128, f 129, f 130, f 131, f 132, f 133, f 134, f 135, f 136, f 137, f 138, f 139, f 140, f 141, f 142, f 143, f 144, f 145, f 146, f 147, f 148, f 149, f 150, f 151, f 152, f 153, f 154, f 155, f 156, f 157, f 158, f 159, f 160, f 161, f 162, f 163, f 164, f 165, f 166, f 167, f 168, f 169, f 170, f 171, f 172, f 173, f 174, f 175, f 176, f 177, f 178, f 179, f 180, f 181, f 182, f 183, f 184, f 185, f 186, f 187, f 188, f 189, f 190, f 191, f 192, f 193, f 194, f 195, f 196, f 197, f 198, f 199, f 200, f 201, f 202, f 203, f 204, f 205, f 206, f 207, f 208, f 209, f 210, f 211, f 212, f 213, f 214, f 215, f 216, f 217, f 218, f 219, f 220, f 221, f 222, f 223, f 224, f 225, f 226, f 227, f 228, f 229, f 230, f 231, f 232, f 233, f 234, f 235, f 236, f 237, f 238, f 239, f 240, f 241, f 242, f 243, f 244, f 245, f 246, f 247, f 248, f 249, f 250, f 251, f 252, f 253, f 254, f 255, f 256, f 257, f 258, f 259, f 260, f 261, f 262, f 263, f 264, f 265, f 266, f 267, f 268, f 269, f 270, f 271, f 272, f 273, f 274, f 275, f 276, f 277, f 278, f 279, f 280, f 281, f 282, f 283, f 284, f 285, f 286, f 287, f 288, f 289, f 290, f 291, f 292, f 293, f 294, f 295, f 296, f 297, f 298, f 299, f 300, f 301, f 302, f 303, f 304, f 305, f 306, f 307, f 308, f 309, f 310, f 311, f 312, f 313, f 314, f 315, f 316, f 317, f 318, f 319, f 320, f 321, f 322, f 323], []⟩

set_option maxRecDepth 100000 in
theorem head_intro (w0 w : World) (a c : Int) (ao : Option Addr) (n cap : Nat) (m L : Int) (tot : Int) (pf : Nat) (rb pm am mo : Nat) (T : Nat) (i qb : Nat) (pk : Int) (al ml : List En) (fl : List Fq) (qv : Value) (hi : i ≤ T) (hI : Inv w0 w rb pm am mo qb m pk al ml fl qv) (v16 v17 v18 v19 v20 v21 v22 v23 v24 v25 v26 v27 v28 v29 v30 v31 v32 v33 v34 v35 v36 v37 v38 v39 v40 v41 v42 v43 v44 v45 v46 v47 v48 v49 v50 v51 v52 v53 v54 v55 v56 v57 v58 v59 v60 v61 v62 v63 v64 v65 v66 v67 v68 v69 v70 v71 v72 v73 v74 v75 v76 v77 v78 v79 v80 v81 v82 v83 v84 v85 v86 v87 v88 v89 v90 v91 v92 v93 v94 v95 v96 v97 v98 v99 v100 v101 v102 v103 v104 v105 v106 v107 v108 v109 v110 v111 v112 v113 v114 v115 v116 v117 v118 v119 v120 v121 v122 v123 v124 v125 v126 v127 v128 v129 v130 v131 v132 v133 v134 v135 v136 v137 v138 v139 v140 v141 v142 v143 v144 v145 v146 v147 v148 v149 v150 v151 v152 v153 v154 v155 v156 v157 v158 v159 v160 v161 v162 v163 v164 v165 v166 v167 v168 v169 v170 v171 v172 v173 v174 v175 v176 v177 v178 v179 v180 v181 v182 v183 v184 v185 v186 v187 v188 v189 v190 v191 v192 v193 v194 v195 v196 v197 v198 v199 v200 v201 v202 v203 v204 v205 v206 v207 v208 v209 v210 v211 v212 v213 v214 v215 v216 v217 v218 v219 v220 v221 v222 v223 v224 v225 v226 v227 v228 v229 v230 v231 v232 v233 v234 v235 v236 v237 v238 v239 v240 v241 v242 v243 v244 v245 v246 v247 v248 v249 v250 v251 v252 v253 v254 v255 v256 v257 v258 v259 v260 v261 v262 v263 v264 v265 v266 v267 v268 v269 v270 v271 v272 v273 v274 v275 v276 v277 v278 v279 v280 v281 v282 v283 v284 v285 v286 v287 v288 v289 v290 v291 v292 v293 v294 v295 v296 v297 v298 v299 v300 v301 v302 v303 v304 v305 v306 v307 v308 v309 v310 v311 v312 v313 v314 v315 v316 v317 v318 v319 v320 v321 v322 v323 : Value) :
    Head w0 a c ao n cap m L tot pf rb pm am mo T (T - i) ⟨#[.int .u8 a, .int .u8 c, .slice ao n cap, undef, undef, undef, .bool false, .int .i64 m, P2 rb 0, .int .i64 L, .int .i64 (pf : Int), .int .i64 tot, qv, .map (some mo), .int .i64 pk, .int .i64 i, v16, v17, v18, v19, v20, v21, v22, v23, v24, v25, v26, v27, v28, v29, v30, v31, v32, v33, v34, v35, v36, v37, v38, v39, v40, v41, v42, v43, v44, v45, v46, v47, v48, v49, v50, v51, v52, v53, v54, v55, v56, v57, v58, v59, v60, v61, v62, v63, v64, v65, v66, v67, v68, v69, v70, v71, v72, v73, v74, v75, v76, v77, v78, v79, v80, v81, v82, v83, v84, v85, v86, v87, v88, v89, v90, v91, v92, v93, v94, v95, v96, v97, v98, v99, v100, v101, v102, v103, v104, v105, v106, v107, v108, v109, v110, v111, v112, v113, v114, v115, v116, v117, v118, v119, v120, v121, v122, v123, v124, v125, v126, v127, v128, v129, v130, v131, v132, v133, v134, v135, v136, v137, v138, v139, v140, v141, v142, v143, v144, v145, v146, v147, v148, v149, v150, v151, v152, v153, v154, v155, v156, v157, v158, v159, v160, v161, v162, v163, v164, v165, v166, v167, v168, v169, v170, v171, v172, v173, v174, v175, v176, v177, v178, v179, v180, v181, v182, v183, v184, v185, v186, v187, v188, v189, v190, v191, v192, v193, v194, v195, v196, v197, v198, v199, v200, v201, v202, v203, v204, v205, v206, v207, v208, v209, v210, v211, v212, v213, v214, v215, v216, v217, v218, v219, v220, v221, v222, v223, v224, v225, v226, v227, v228, v229, v230, v231, v232, v233, v234, v235, v236, v237, v238, v239, v240, v241, v242, v243, v244, v245, v246, v247, v248, v249, v250, v251, v252, v253, v254, v255, v256, v257, v258, v259, v260, v261, v262, v263, v264, v265, v266, v267, v268, v269, v270, v271, v272, v273, v274, v275, v276, v277, v278, v279, v280, v281, v282, v283, v284, v285, v286, v287, v288, v289, v290, v291, v292, v293, v294, v295, v296, v297, v298, v299, v300, v301, v302, v303, v304, v305, v306, v307, v308, v309, v310, v311, v312, v313, v314, v315, v316, v317, v318, v319, v320, v321, v322, v323], []⟩ w :=
  ⟨fun k => ([v16, v17, v18, v19, v20, v21, v22, v23, v24, v25, v26, v27, v28, v29, v30, v31, v32, v33, v34, v35, v36, v37, v38, v39, v40, v41, v42, v43, v44, v45, v46, v47, v48, v49, v50, v51, v52, v53, v54, v55, v56, v57, v58, v59, v60, v61, v62, v63, v64, v65, v66, v67, v68, v69, v70, v71, v72, v73, v74, v75, v76, v77, v78, v79, v80, v81, v82, v83, v84, v85, v86, v87, v88, v89, v90, v91, v92, v93, v94, v95, v96, v97, v98, v99, v100, v101, v102, v103, v104, v105, v106, v107, v108, v109, v110, v111, v112, v113, v114, v115, v116, v117, v118, v119, v120, v121, v122, v123, v124, v125, v126, v127, v128, v129, v130, v131, v132, v133, v134, v135, v136, v137, v138, v139, v140, v141, v142, v143, v144, v145, v146, v147, v148, v149, v150, v151, v152, v153, v154, v155, v156, v157, v158, v159, v160, v161, v162, v163, v164, v165, v166, v167, v168, v169, v170, v171, v172, v173, v174, v175, v176, v177, v178, v179, v180, v181, v182, v183, v184, v185, v186, v187, v188, v189, v190, v191, v192, v193, v194, v195, v196, v197, v198, v199, v200, v201, v202, v203, v204, v205, v206, v207, v208, v209, v210, v211, v212, v213, v214, v215, v216, v217, v218, v219, v220, v221, v222, v223, v224, v225, v226, v227, v228, v229, v230, v231, v232, v233, v234, v235, v236, v237, v238, v239, v240, v241, v242, v243, v244, v245, v246, v247, v248, v249, v250, v251, v252, v253, v254, v255, v256, v257, v258, v259, v260, v261, v262, v263, v264, v265, v266, v267, v268, v269, v270, v271, v272, v273, v274, v275, v276, v277, v278, v279, v280, v281, v282, v283, v284, v285, v286, v287, v288, v289, v290, v291, v292, v293, v294, v295, v296, v297, v298, v299, v300, v301, v302, v303, v304, v305, v306, v307, v308, v309, v310, v311, v312, v313, v314, v315, v316, v317, v318, v319, v320, v321, v322, v323] : List Value).getD (k - 16) undef, i, qb, pk, al, ml, fl, qv, hi, rfl, hI, by kernel_rfl⟩

set_option maxRecDepth 100000 in
set_option maxHeartbeats 8000000 in
theorem law_any (w0 : World) (a c : Int) (ao : Option Addr) (n cap b off : Nat) (S : Nat → Stp) (ha : 0 ≤ a) (ha' : a < 256) (hc : 0 ≤ c) (hc' : c < 256) (hn : n ≤ 9223372036854775807) (hin : Inp w0 ao n b off S) :
    Calls Yba.prog 4 #[.int .u8 a, .int .u8 c, .slice ao n cap] w0 fun e w' => e = .returned (.bool true) ∧ Same w0 w' := by
  go_enter Yba.func4, Yba.ntmps4
  by_cases hbig : 1024 < n
  · have e1 : decide ((1024 : Int) < (n : Int)) = true := by simp; omega
    go_wp2
    go_ret
    exact ⟨rfl, Same.refl _⟩
  · have e1 : decide ((1024 : Int) < (n : Int)) = false := by simp; omega
    go_upto_region 4 with fail
    clear e1
    go_cut [32] from 28 to 32 (fun v wx => v = .int .u8 (a % 3) ∧ wx = w0)
    case first =>
      go_wp2
      go_meet
      case rel => exact ⟨rfl, rfl⟩
    case rest =>
      obtain ⟨hv32, hwc⟩ := hcut
      subst hv32
      rw [hwc]
      clear hwc wc
      apply_assumption
      go_cut [7] from 28 to 36 (fun v wx => ∃ m : Int, (m = 0 ∨ m = 1 ∨ m = 2) ∧ v = .int .i64 m ∧ wx = w0)
      case first =>
        go_wp2
        · go_meet
          case rel => exact ⟨1, by omega, rfl, rfl⟩
        · go_meet
          case rel => exact ⟨2, by omega, rfl, rfl⟩
        · go_meet
          case rel => exact ⟨0, by omega, rfl, rfl⟩
      case rest =>
        obtain ⟨m, hm, hv7, hwc⟩ := hcut
        subst hv7
        rw [hwc]
        clear hwc wc
        have hlim : 1 ≤ lim m ∧ lim m ≤ 64 := by unfold lim; split <;> omega
        have hwr : IntKind.i64.wrap (16 * lim m) = 16 * lim m := by rw [IntKind.wrap_i64]; omega
        go_wp2_with fail
        refine (new_any w0 0 m).mono ?_
        rintro e w1 ⟨rfl, hN⟩
        dsimp only
        obtain ⟨C, hR⟩ := hN.rs
        have c0 := (hR.row.cell (i := 0) (by omega)).trans (congrArg some hR.rc.c0)
        have c1 := (hR.row.cell (i := 1) (by omega)).trans (congrArg some hR.rc.c1)
        have c2 := (hR.row.cell (i := 2) (by omega)).trans (congrArg some hR.rc.c2)
        have c3 := (hR.row.cell (i := 3) (by omega)).trans (congrArg some hR.rc.c3)
        have c4 := (hR.row.cell (i := 4) (by omega)).trans (congrArg some hR.rc.c4)
        have c5 := (hR.row.cell (i := 5) (by omega)).trans (congrArg some hR.rc.c5)
        have c6 := (hR.row.cell (i := 6) (by omega)).trans (congrArg some hR.rc.c6)
        have HN : Hid (NewR w0 w1 0 m) := hN
        clear hN hR
        obtain ⟨N, hN⟩ : ∃ N, N = w0.heap.size := ⟨_, rfl⟩
        rw [← hN] at c0 c1 c2 c3 c4 c5 c6 ⊢
        have HNe : Hid (N = w0.heap.size) := hN
        clear hN
        go_wp2_with fail
        refine (maxp_any _ 0 m).mono ?_
        rintro e w2 ⟨rfl, o2, rfl⟩
        dsimp only
        clear c0 c1 c2 c3 c4 c5 c6
        obtain ⟨pf, hpf⟩ : ∃ pf : Nat, (pf : Int) = 16 * lim m - 1 - c % 4 := ⟨(16 * lim m - 1 - c % 4).toNat, by omega⟩
        have hw1 : IntKind.i64.wrap (16 * lim m - 1) = 16 * lim m - 1 := by rw [IntKind.wrap_i64]; omega
        have hw2 : IntKind.i64.wrap (16 * lim m - 1 - c % 4) = (pf : Int) := by rw [IntKind.wrap_i64]; omega
        have hw3 : IntKind.i64.wrap ((pf : Int) + (n : Int)) = (pf : Int) + (n : Int) := by rw [IntKind.wrap_i64]; omega
        have hw4 : IntKind.i64.wrap (c % 4) = c % 4 := by rw [IntKind.wrap_i64]; omega
        have HPF : Hid ((pf : Int) = 16 * lim m - 1 - c % 4) := hpf
        go_upto_region 17 with fail
        clear hw1 hw2 hw3 hw4 hwr hpf
        have hI0 : Inv w0 ((w1.alloc o2).alloc (.map #[] 0)) (N + 3) (N + 1) (N + 2) (w1.heap.size + 1) N m 0 [] [] [] (.slice none 0 0) := by
          have hN := HN.out
          have hNe := HNe.out
          have hS : Same w0 w1 := ⟨hN.os, hN.output, by rw [hN.size]; omega, hN.old⟩
          have hz0 := hN.size
          have hz1 : (w1.alloc o2).heap.size = w1.heap.size + 1 := World.size_alloc ..
          have hz2 : ((w1.alloc o2).alloc (.map #[] 0)).heap.size = w1.heap.size + 2 := by rw [World.size_alloc, hz1]
          obtain ⟨C, hR⟩ := hN.rs
          rw [← hNe] at hR
          refine ⟨⟨(hS.alloc _).alloc _, ⟨C, (hR.alloc _).alloc _⟩, ⟨0, by have := heap_alloc_new (w1.alloc o2) (.map #[] 0); rw [hz1] at this; exact this⟩, by omega, by omega, Qs.empty _ _, by omega, by omega, by omega, by omega, by simp [fgs, blks], by omega, by omega, by omega, by omega, by omega, by omega, fun b hb => by simp [fgs, blks] at hb⟩, rfl, fun e he => by simp at he, fun e he => by simp at he, by simp; omega⟩
        have HI0 : Hid _ := hI0
        clear hI0
        rw [← HPF.out]
        refine wp_loop_ghost_k (Head w0 a c ao n cap m (16 * lim m) ((pf : Int) + (n : Int)) pf (N + 3) (N + 1) (N + 2) (w1.heap.size + 1) (pf + n)) (pf + n - 0) (head_intro w0 _ a c ao n cap m (16 * lim m) _ pf _ _ _ _ (pf + n) 0 N 0 [] [] [] _ (Nat.zero_le _) HI0.out _ _ _ _ _ _ _ _ _ _ _ _ _ _ _ _ _ _ _ _ _ _ _ _ _ _ _ _ _ _ _ _ _ _ _ _ _ _ _ _ _ _ _ _ _ _ _ _ _ _ _ _ _ _ _ _ _ _ _ _ _ _ _ _ _ _ _ _ _ _ _ _ _ _ _ _ _ _ _ _ _ _ _ _ _ _ _ _ _ _ _ _ _ _ _ _ _ _ _ _ _ _ _ _ _ _ _ _ _ _ _ _ _ _ _ _ _ _ _ _ _ _ _ _ _ _ _ _ _ _ _ _ _ _ _ _ _ _ _ _ _ _ _ _ _ _ _ _ _ _ _ _ _ _ _ _ _ _ _ _ _ _ _ _ _ _ _ _ _ _ _ _ _ _ _ _ _ _ _ _ _ _ _ _ _ _ _ _ _ _ _ _ _ _ _ _ _ _ _ _ _ _ _ _ _ _ _ _ _ _ _ _ _ _ _ _ _ _ _ _ _ _ _ _ _ _ _ _ _ _ _ _ _ _ _ _ _ _ _ _ _ _ _ _ _ _ _ _ _ _ _ _ _ _ _ _ _ _ _ _ _ _ _ _ _ _ _ _ _ _ _ _ _ _ _ _ _ _ _ _ _ _ _ _ _ _ _ _ _ _ _ _ _ _ _ _ _ _ _ _ _ _ _ _ _ _ _ _) ?_
        intro g A w hH J Kr hJ hKr
        obtain ⟨f, i, qb, pk, al, ml, fl, qv, hi, rfl, hI, rfl⟩ := hH
        dsimp only
        have HI : Hid _ := hI
        have HJ : Hid _ := hJ
        have HKr : Hid _ := hKr
        clear hI hJ hKr
        by_cases hlt : i < pf + n
        · have e1 : decide ((i : Int) < (pf : Int) + (n : Int)) = true := by simp; omega
          go_upto_if 59 with fail
          clear e1
          refine wp_cond_true (by rfl) (wp_skip ?_)
          unfold Exit.then
          dsimp only
          apply_assumption
          refine wp_seq_k fun K2 hK2 => ?_
          refine Code.wp_mono ?_ (body1 w0 w a c ao n cap b off S m (16 * lim m) _ pf (N + 3) (N + 1) (N + 2) (w1.heap.size + 1) qb pk al ml fl qv i (fun k => match k with | 57 => .int .i64 (i : Int) | 58 => .int .i64 ((pf : Int) + (n : Int)) | 59 => .bool true | k => f k) K2 (fun e w' => e = .returned (.bool true) ∧ Same w0 w') hin (by omega) hm rfl (by have := HPF.out; omega) hlt HI.out ?_)
          · intro e a' w' h
            cases e <;> first | exact h | exact h.elim
          · intro v16 v17 v18 v19 v20 v21 v22 v23 v24 v25 v26 v27 v28 v29 v30 v31 v32 v33 v34 v35 v36 v37 v38 v39 v40 v41 v42 v43 v44 v45 v46 v47 v48 v49 v50 v51 v52 v53 v54 v55 v56 v57 v58 v59 v60 v61 v62 v63 v64 v65 v66 v67 v68 v69 v70 v71 v72 v73 v74 v75 v76 v77 v78 v79 v80 v81 v82 v83 v84 v85 v86 v87 v88 v89 v90 v91 v92 v93 v94 v95 v96 v97 v98 v99 v100 v101 v102 v103 v104 v105 v106 v107 v108 v109 v110 v111 v112 v113 v114 v115 v116 v117 v118 v119 v120 v121 v122 v123 v124 v125 v126 v127 v128 v129 v130 v131 v132 v133 v134 v135 v136 v137 v138 v139 v140 v141 v142 v143 v144 v145 v146 v147 v148 v149 v150 v151 v152 v153 v154 v155 v156 v157 v158 v159 v160 v161 v162 v163 v164 v165 v166 v167 v168 v169 v170 v171 v172 v173 v174 v175 v176 v177 v178 v179 v180 v181 v182 v183 v184 v185 v186 v187 v188 v189 v190 v191 v192 v193 v194 v195 v196 v197 v198 v199 v200 v201 v202 v203 v204 v205 v206 v207 v208 v209 v210 v211 v212 v213 v214 v215 v216 v217 v218 v219 v220 v221 v222 v223 v224 v225 v226 v227 v228 v229 v230 v231 v232 v233 v234 v235 v236 v237 v238 v239 v240 v241 v242 v243 v244 v245 v246 v247 v248 v249 v250 v251 v252 v253 v254 v255 v256 v257 v258 v259 v260 v261 v262 v263 v264 v265 v266 v267 v268 v269 v270 v271 v272 v273 v274 v275 v276 v277 v278 v279 v280 v281 v282 v283 v284 v285 v286 v287 v288 v289 v290 v291 v292 v293 v294 v295 v296 v297 v298 v299 v300 v301 v302 v303 v304 v305 v306 v307 v308 v309 v310 v311 v312 v313 v314 v315 v316 v317 v318 v319 v320 v321 v322 v323 w' qb' pk' al' ml' fl' qv' hI'
            have HI' : Hid _ := hI'
            clear hI'
            have hw5 : IntKind.i64.wrap ((i : Int) + 1) = (i : Int) + 1 := by rw [IntKind.wrap_i64]; have := HPF.out; omega
            refine hK2 _ _ ?_
            clear hK2
            dsimp only
            go_wp2
            refine HKr.out _ _ (Handed.intro (pf + n - (i + 1)) (by omega) (HJ.out _ _ _ ?_))
            have e15 : (i : Int) + 1 = ((i + 1 : Nat) : Int) := by simp
            rw [e15]
            exact head_intro w0 _ a c ao n cap m (16 * lim m) _ pf _ _ _ _ (pf + n) (i + 1) qb' pk' al' ml' fl' qv' (by omega) HI'.out _ _ _ _ _ _ _ _ _ _ _ _ _ _ _ _ _ _ _ _ _ _ _ _ _ _ _ _ _ _ _ _ _ _ _ _ _ _ _ _ _ _ _ _ _ _ _ _ _ _ _ _ _ _ _ _ _ _ _ _ _ _ _ _ _ _ _ _ _ _ _ _ _ _ _ _ _ _ _ _ _ _ _ _ _ _ _ _ _ _ _ _ _ _ _ _ _ _ _ _ _ _ _ _ _ _ _ _ _ _ _ _ _ _ _ _ _ _ _ _ _ _ _ _ _ _ _ _ _ _ _ _ _ _ _ _ _ _ _ _ _ _ _ _ _ _ _ _ _ _ _ _ _ _ _ _ _ _ _ _ _ _ _ _ _ _ _ _ _ _ _ _ _ _ _ _ _ _ _ _ _ _ _ _ _ _ _ _ _ _ _ _ _ _ _ _ _ _ _ _ _ _ _ _ _ _ _ _ _ _ _ _ _ _ _ _ _ _ _ _ _ _ _ _ _ _ _ _ _ _ _ _ _ _ _ _ _ _ _ _ _ _ _ _ _ _ _ _ _ _ _ _ _ _ _ _ _ _ _ _ _ _ _ _ _ _ _ _ _ _ _ _ _ _ _ _ _ _ _ _ _ _ _ _ _ _ _ _ _ _ _ _ _ _ _ _ _ _ _ _ _ _ _ _ _ _ _ _
        · have e1 : decide ((i : Int) < (pf : Int) + (n : Int)) = false := by simp; omega
          go_upto_if 59 with fail
          clear e1
          refine wp_cond_false (by rfl) (wp_exit ?_)
          simp only [Exit.then, Exit.inBlock, if_true]
          apply_assumption
          exact law_end w0 w a c ao n cap m (16 * lim m) _ pf (N + 3) (N + 1) (N + 2) (w1.heap.size + 1) qb pk al ml fl qv _ _ _ _ _ _ _ _ _ _ _ _ _ _ _ _ _ _ _ _ _ _ _ _ _ _ _ _ _ _ _ _ _ _ _ _ _ _ _ _ _ _ _ _ _ _ _ _ _ _ _ _ _ _ _ _ _ _ _ _ _ _ _ _ _ _ _ _ _ _ _ _ _ _ _ _ _ _ _ _ _ _ _ _ _ _ _ _ _ _ _ _ _ _ _ _ _ _ _ _ _ _ _ _ _ _ _ _ _ _ _ _ _ _ _ _ _ _ _ _ _ _ _ _ _ _ _ _ _ _ _ _ _ _ _ _ _ _ _ _ _ _ _ _ _ _ _ _ _ _ _ _ _ _ _ _ _ _ _ _ _ _ _ _ _ _ _ _ _ _ _ _ _ _ _ _ _ _ _ _ _ _ _ _ _ _ _ _ _ _ _ _ _ _ _ _ _ _ _ _ _ _ _ _ _ _ _ _ _ _ _ _ _ _ _ _ _ _ _ _ _ _ _ _ _ _ _ _ _ _ _ _ _ _ _ _ _ _ _ _ _ _ _ _ _ _ _ _ _ _ _ _ _ _ _ _ _ _ _ _ _ _ _ _ _ _ _ _ _ _ _ _ _ _ _ _ _ _ _ _ _ _ _ _ _ _ _ _ _ _ _ _ _ _ _ _ _ _ _ _ _ _ _ _ _ _ _ _ _ hm HI.out
end Go.Proofs.Ybulkakzc
