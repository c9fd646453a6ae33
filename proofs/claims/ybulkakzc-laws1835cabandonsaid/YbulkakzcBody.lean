/-
  THE LAW OF ABANDONING (seat b1835a): one round.
-/
import Derived.Test.YbulkakzcBody3
import Derived.Test.YbulkakzcBody4
import Derived.BigQuiet
namespace Go.Proofs.Ybulkakzc
open Go.RowKit
set_option linter.unusedSimpArgs false


set_option maxRecDepth 100000 in
set_option maxHeartbeats 8000000 in
theorem body1 (w0 wr : World) (a c : Int) (ao : Option Addr) (n cap b off : Nat) (S : Nat → Stp) (m L tot : Int) (pf : Nat) (rb pm am mo qb : Nat) (pk : Int) (al ml : List En) (fl : List Fq) (qv : Value) (i : Nat) (f : Nat → Value) (K : Act → World → Prop) (R : Ending → World → Prop)
    (hin : Inp w0 ao n b off S) (hn : n ≤ 1024) (hm : m = 0 ∨ m = 1 ∨ m = 2) (hL : L = 16 * lim m) (hpf2 : pf ≤ 2000) (hi0 : i < pf + n)
    (hI : Inv w0 wr rb pm am mo qb m pk al ml fl qv)
    (hK : ∀ (v16 v17 v18 v19 v20 v21 v22 v23 v24 v25 v26 v27 v28 v29 v30 v31 v32 v33 v34 v35 v36 v37 v38 v39 v40 v41 v42 v43 v44 v45 v46 v47 v48 v49 v50 v51 v52 v53 v54 v55 v56 v57 v58 v59 v60 v61 v62 v63 v64 v65 v66 v67 v68 v69 v70 v71 v72 v73 v74 v75 v76 v77 v78 v79 v80 v81 v82 v83 v84 v85 v86 v87 v88 v89 v90 v91 v92 v93 v94 v95 v96 v97 v98 v99 v100 v101 v102 v103 v104 v105 v106 v107 v108 v109 v110 v111 v112 v113 v114 v115 v116 v117 v118 v119 v120 v121 v122 v123 v124 v125 v126 v127 v128 v129 v130 v131 v132 v133 v134 v135 v136 v137 v138 v139 v140 v141 v142 v143 v144 v145 v146 v147 v148 v149 v150 v151 v152 v153 v154 v155 v156 v157 v158 v159 v160 v161 v162 v163 v164 v165 v166 v167 v168 v169 v170 v171 v172 v173 v174 v175 v176 v177 v178 v179 v180 v181 v182 v183 v184 v185 v186 v187 v188 v189 v190 v191 v192 v193 v194 v195 v196 v197 v198 v199 v200 v201 v202 v203 v204 v205 v206 v207 v208 v209 v210 v211 v212 v213 v214 v215 v216 v217 v218 v219 v220 v221 v222 v223 v224 v225 v226 v227 v228 v229 v230 v231 v232 v233 v234 v235 v236 v237 v238 v239 v240 v241 v242 v243 v244 v245 v246 v247 v248 v249 v250 v251 v252 v253 v254 v255 v256 v257 v258 v259 v260 v261 v262 v263 v264 v265 v266 v267 v268 v269 v270 v271 v272 v273 v274 v275 v276 v277 v278 v279 v280 v281 v282 v283 v284 v285 v286 v287 v288 v289 v290 v291 v292 v293 v294 v295 v296 v297 v298 v299 v300 v301 v302 v303 v304 v305 v306 v307 v308 v309 v310 v311 v312 v313 v314 v315 v316 v317 v318 v319 v320 v321 v322 v323 : Value) (w' : World) (qb' : Nat) (pk' : Int) (al' ml' : List En) (fl' : List Fq) (qv' : Value), Inv w0 w' rb pm am mo qb' m pk' al' ml' fl' qv' → K ⟨#[.int .u8 a, .int .u8 c, .slice ao n cap, undef, undef, undef, .bool false, .int .i64 m, P2 rb 0, .int .i64 L, .int .i64 (pf : Int), .int .i64 tot, qv', .map (some mo), .int .i64 pk', .int .i64 i, v16, v17, v18, v19, v20, v21, v22, v23, v24, v25, v26, v27, v28, v29, v30, v31, v32, v33, v34, v35, v36, v37, v38, v39, v40, v41, v42, v43, v44, v45, v46, v47, v48, v49, v50, v51, v52, v53, v54, v55, v56, v57, v58, v59, v60, v61, v62, v63, v64, v65, v66, v67, v68, v69, v70, v71, v72, v73, v74, v75, v76, v77, v78, v79, v80, v81, v82, v83, v84, v85, v86, v87, v88, v89, v90, v91, v92, v93, v94, v95, v96, v97, v98, v99, v100, v101, v102, v103, v104, v105, v106, v107, v108, v109, v110, v111, v112, v113, v114, v115, v116, v117, v118, v119, v120, v121, v122, v123, v124, v125, v126, v127, v128, v129, v130, v131, v132, v133, v134, v135, v136, v137, v138, v139, v140, v141, v142, v143, v144, v145, v146, v147, v148, v149, v150, v151, v152, v153, v154, v155, v156, v157, v158, v159, v160, v161, v162, v163, v164, v165, v166, v167, v168, v169, v170, v171, v172, v173, v174, v175, v176, v177, v178, v179, v180, v181, v182, v183, v184, v185, v186, v187, v188, v189, v190, v191, v192, v193, v194, v195, v196, v197, v198, v199, v200, v201, v202, v203, v204, v205, v206, v207, v208, v209, v210, v211, v212, v213, v214, v215, v216, v217, v218, v219, v220, v221, v222, v223, v224, v225, v226, v227, v228, v229, v230, v231, v232, v233, v234, v235, v236, v237, v238, v239, v240, v241, v242, v243, v244, v245, v246, v247, v248, v249, v250, v251, v252, v253, v254, v255, v256, v257, v258, v259, v260, v261, v262, v263, v264, v265, v266, v267, v268, v269, v270, v271, v272, v273, v274, v275, v276, v277, v278, v279, v280, v281, v282, v283, v284, v285, v286, v287, v288, v289, v290, v291, v292, v293, v294, v295, v296, v297, v298, v299, v300, v301, v302, v303, v304, v305, v306, v307, v308, v309, v310, v311, v312, v313, v314, v315, v316, v317, v318, v319, v320, v321, v322, v323], []⟩ w') :
    Code.wp Yba.prog (blk2 (Yba.f4.body.getD .skip)) (Exit.then K (bodyPost Yba.prog Yba.f4 R)) ⟨#[.int .u8 a, .int .u8 c, .slice ao n cap, undef, undef, undef, .bool false, .int .i64 m, P2 rb 0, .int .i64 L, .int .i64 (pf : Int), .int .i64 tot, qv, .map (some mo), .int .i64 pk, .int .i64 i, f 16, f 17, f 18, f 19, f 20, f 21, f 22, f 23, f 24, f 25, f 26, f 27, f 28, f 29, f 30, f 31, f 32, f 33, f 34, f 35, f 36, f 37, f 38, f 39, f 40, f 41, f 42, f 43, f 44, f 45, f 46, f 47, f 48, f 49, f 50, f 51, f 52, f 53, f 54, f 55, f 56, f 57, f 58, f 59, f 60, f 61, f 62, f 63, f 64, f 65, f 66, f 67, f 68, f 69, f 70, f 71, f 72, f 73, f 74, f 75, f 76, f 77, f 78, f 79, f 80, f 81, f 82, f 83, f 84, f 85, f 86, f 87, f 88, f 89, f 90, f 91, f 92, f 93, f 94, f 95, f 96, f 97, f 98, f 99, f 100, f 101, f 102, f 103, f 104, f 105, f 106, f 107, f 108, f 109, f 110, f 111, f 112, f 113, f 114, f 115, f 116, f 117, f 118, f 119, f 120, f 121, f 122, f 123, f 124, f 125, f 126, f 127, f 128, f 129, f 130, f 131, f 132, f 133, f 134, f 135, f 136, f 137, f 138, f 139, f 140, f 141, f 142, f 143, f 144, f 145, f 146, f 147, f 148, f 149, f 150, f 151, f 152, f 153, f 154, f 155, f 156, f 157, f 158, f 159, f 160, f 161, f 162, f 163, f 164, f 165, f 166, f 167, f 168, f 169, f 170, f 171, f 172, f 173, f 174, f 175, f 176, f 177, f 178, f 179, f 180, f 181, f 182, f 183, f 184, f 185, f 186, f 187, f 188, f 189, f 190, f 191, f 192, f 193, f 194, f 195, f 196, f 197, f 198, f 199, f 200, f 201, f 202, f 203, f 204, f 205, f 206, f 207, f 208, f 209, f 210, f 211, f 212, f 213, f 214, f 215, f 216, f 217, f 218, f 219, f 220, f 221, f 222, f 223, f 224, f 225, f 226, f 227, f 228, f 229, f 230, f 231, f 232, f 233, f 234, f 235, f 236, f 237, f 238, f 239, f 240, f 241, f 242, f 243, f 244, f 245, f 246, f 247, f 248, f 249, f 250, f 251, f 252, f 253, f 254, f 255, f 256, f 257, f 258, f 259, f 260, f 261, f 262, f 263, f 264, f 265, f 266, f 267, f 268, f 269, f 270, f 271, f 272, f 273, f 274, f 275, f 276, f 277, f 278, f 279, f 280, f 281, f 282, f 283, f 284, f 285, f 286, f 287, f 288, f 289, f 290, f 291, f 292, f 293, f 294, f 295, f 296, f 297, f 298, f 299, f 300, f 301, f 302, f 303, f 304, f 305, f 306, f 307, f 308, f 309, f 310, f 311, f 312, f 313, f 314, f 315, f 316, f 317, f 318, f 319, f 320, f 321, f 322, f 323], []⟩ wr := by
  dsimp only
  conv => arg 2; whnf
  unfold P2
  have hi1 : (i : Int) ≤ 4000 := by omega
  have hw1 : IntKind.u32.wrap (i : Int) = (i : Int) := by rw [IntKind.wrap_u32]; omega
  have hw2 : IntKind.u32.wrap ((i : Int) + 2147483648) = (i : Int) + 2147483648 := by rw [IntKind.wrap_u32]; omega
  have HLe : Hid (L = 16 * lim m) := hL
  have HK : Hid _ := hK
  clear hK
  have HI : Hid (Inv w0 wr rb pm am mo qb m pk al ml fl qv) := hI
  clear hL
  go_upto_if 68 with fail
  go_cut [] from 57 to 74 (fun wx => ∃ x : Stp, x.Ok ∧ wx = wr.alloc (.cells (stc x) 99))
  case first =>
    by_cases hp : pf ≤ i
    · have e1 : decide ((pf : Int) ≤ (i : Int)) = true := by simp; omega
      obtain ⟨j, hj⟩ : ∃ j : Nat, j = i - pf := ⟨_, rfl⟩
      have e2 : (i : Int) - (pf : Int) = (j : Int) := by omega
      have e3 : IntKind.i64.wrap (j : Int) = (j : Int) := by rw [IntKind.wrap_i64]; omega
      have hjn : j < n := by omega
      have hao := hin.addr (by omega)
      subst hao
      have hbl := hin.lt (by omega)
      have hblr : b < wr.heap.size := Nat.lt_of_lt_of_le hbl hI.core.old.size
      have hX := ((hin.at_ j hjn).of_block (hI.core.old.block b hbl)).of_block (Below.heap_alloc wr (.cells (stc ⟨(i : Int) + 2147483648, 0, 0, false, 0, false, 0, 0⟩) 99) b hblr)
      have HO : Hid (S j).Ok := hin.ok j hjn
      have hnew := heap_alloc_new wr (.cells (stc ⟨(i : Int) + 2147483648, 0, 0, false, 0, false, 0, 0⟩) 99)
      generalize S j = x at hX HO
      obtain ⟨x0, x1, x2, x3, x4, x5, x6, x7⟩ := hX
      clear hj
      simp only [stc] at x0 x1 x2 x3 x4 x5 x6 x7
      go_wp2
      go_meet
      case rel => exact ⟨x, HO.out, rfl⟩
    · have e1 : decide ((pf : Int) ≤ (i : Int)) = false := by simp; omega
      go_wp2
      go_meet
      case rel => exact ⟨⟨(i : Int) + 2147483648, 0, 0, false, 0, false, 0, 0⟩, ⟨by dsimp only; omega, by dsimp only; omega, by dsimp only; omega, by dsimp only; omega⟩, rfl⟩
  case rest =>
    obtain ⟨x, hx, rfl⟩ := hcut
    clear hw1 hw2
    have hC1 := HI.out.core.same ((Same.refl wr).alloc (.cells (stc x) 99))
    have hs := heap_alloc_new wr (.cells (stc x) 99)
    have HS1 : Hid (Same wr (wr.alloc (.cells (stc x) 99))) := (Same.refl wr).alloc _
    obtain ⟨sb, hsb⟩ : ∃ sb, sb = wr.heap.size := ⟨_, rfl⟩
    rw [← hsb] at hs ⊢
    have HSB : Hid (sb = wr.heap.size) := hsb
    clear hsb
    generalize hw1 : wr.alloc (.cells (stc x) 99) = w1 at *
    clear hw1
    have HG : Hid (∀ w', Same w1 w' → Same w1 w' ∧ w'.cell? ⟨sb, 0, none⟩ = some (.int .u32 x.id) ∧ w'.cell? ⟨sb, 1, none⟩ = some (.int .u16 x.s) ∧ w'.cell? ⟨sb, 2, none⟩ = some (.int .u16 x.d)) := fun w' hS => by
      have h' := (hS.block sb (lt_of_block hs)).trans hs
      exact ⟨hS, cell_of_heap h' 0 _ rfl, cell_of_heap h' 1 _ rfl, cell_of_heap h' 2 _ rfl⟩
    have HHS : Hid (w1.heap[sb]? = some (.cells (stc x) 99 (0, 0))) := hs
    clear hs
    have HC1 : Hid (Core w0 w1 rb pm am mo qb m pk al ml fl qv (fl.map (·.k))) := hC1
    clear hC1
    go_upto_region 22 with fail
    refine region22 _ w1 sb x.id x.s x.d _ _ _ _ _ _ _ _ _ _ _ _ _ _ _ _ _ _ _ _ _ _ _ _ _ _ _ _ _ _ _ _ _ _ _ _ _ _ _ _ _ _ _ _ _ _ _ _ _ _ _ _ _ _ _ _ _ _ _ _ _ _ _ _ _ _ _ _ _ _ _ _ _ _ _ _ _ _ _ _ _ _ _ _ _ _ _ HG.out ?_
    clear HG
    intro kb w2 u75 u76 u77 u78 u79 u80 u81 u82 u83 u84 u85 hS2 hkb hk
    have HC2 : Hid (Core w0 w2 rb pm am mo qb m pk al ml fl qv (fl.map (·.k))) := HC1.out.same hS2
    have hs := (hS2.block sb (lt_of_block HHS.out)).trans HHS.out
    have HS2 : Hid (Same wr w2) := HS1.out.trans hS2
    have hkb2 : wr.heap.size ≤ kb := Nat.le_trans HS1.out.size hkb
    have HKB : Hid (wr.heap.size ≤ kb ∧ kb ≠ sb) := ⟨hkb2, by have := lt_of_block HHS.out; omega⟩
    clear HC1 HS1 HHS hkb hkb2 hS2
    have y3 := cell_of_heap hs 3 (.bool x.st) rfl
    have y4 := cell_of_heap hs 4 (.int .i64 x.fr) rfl
    have y5 := cell_of_heap hs 5 (.bool x.pe) rfl
    have z0 := cell_of_heap hk 0 (.int .u64 0) rfl
    have z1 := cell_of_heap hk 1 (.int .u64 0) rfl
    have z2 := cell_of_heap hk 2 (.pointer none) rfl
    have z3 := cell_of_heap hk 3 (.int .u16 x.s) rfl
    have z4 := cell_of_heap hk 4 (.int .u64 0) rfl
    have z5 := cell_of_heap hk 5 (.int .u64 0) rfl
    have z6 := cell_of_heap hk 6 (.pointer none) rfl
    have z7 := cell_of_heap hk 7 (.int .u16 x.d) rfl
    have z8 := cell_of_heap hk 8 (.int .u32 x.id) rfl
    have HHS : Hid (w2.heap[sb]? = some (.cells (stc x) 99 (0, 0))) := hs
    have HHK : Hid (w2.heap[kb]? = some (.cells (kc x.key).toArray 60 (0, 0))) := hk
    clear hs hk
    have hlt1 := lt_of_block HHS.out
    have hlt2 := lt_of_block HHK.out
    go_upto_if 94 with fail
    clear y3 y4 y5 z0 z1 z2 z3 z4 z5 z6 z7 z8
    change Code.wp _ _ _ _ (w2.alloc (.cells (msg x.key 0 0 (.pointer none) 0 x.fr x.st) 71))
    obtain ⟨mb, hmb⟩ : ∃ mb, mb = w2.heap.size := ⟨_, rfl⟩
    rw [← hmb]
    have hM3 : Msg (w2.alloc (.cells (msg x.key 0 0 (.pointer none) 0 x.fr x.st) 71)) mb x.key 0 0 (.pointer none) 0 x.fr x.st := by rw [hmb]; exact heap_alloc_new _ _
    have hS3 : Same wr (w2.alloc (.cells (msg x.key 0 0 (.pointer none) 0 x.fr x.st) 71)) := HS2.out.alloc _
    have hC3 := HC2.out.same ((Same.refl w2).alloc (.cells (msg x.key 0 0 (.pointer none) 0 x.fr x.st) 71))
    have hs3 := (Below.heap_alloc w2 (.cells (msg x.key 0 0 (.pointer none) 0 x.fr x.st) 71) sb hlt1).trans HHS.out
    have hk3 := (Below.heap_alloc w2 (.cells (msg x.key 0 0 (.pointer none) 0 x.fr x.st) 71) kb hlt2).trans HHK.out
    have HMB : Hid (mb ≠ sb ∧ mb ≠ kb ∧ wr.heap.size ≤ mb) := ⟨by omega, by omega, by rw [hmb]; exact HS2.out.size⟩
    generalize hw3 : w2.alloc (.cells (msg x.key 0 0 (.pointer none) 0 x.fr x.st) 71) = w3 at hM3 hS3 hC3 hs3 hk3 ⊢
    clear hw3 hmb hlt1 hlt2 HHS HHK HC2 HS2
    have HSB2 : Hid (wr.heap.size ≤ sb) := by show wr.heap.size ≤ sb; rw [HSB.out]; exact Nat.le_refl _
    go_cut [] from 57 to 137 (fun wx => Pd wr wx rb pm am m pk al fl sb kb mb x)
    case first =>
      cases hpe : x.pe
      · go_wp2
        go_meet
        case rel =>
          obtain ⟨C, hR⟩ := hC3.rs
          exact ⟨hS3.os, hS3.output, hS3.size, fun j hj _ _ => hS3.block j hj, hs3, hk3, Or.inl ⟨C, hR, hM3⟩⟩
      · obtain ⟨C, hR⟩ := hC3.rs
        have c10 := (hR.row.cell (i := 10) (by omega)).trans (congrArg some hR.rc.c10)
        obtain ⟨cp, hp⟩ := hR.pmap
        have z0 := cell_of_heap hk3 0 (.int .u64 0) rfl
        have z1 := cell_of_heap hk3 1 (.int .u64 0) rfl
        have z2 := cell_of_heap hk3 2 (.pointer none) rfl
        have z3 := cell_of_heap hk3 3 (.int .u16 x.s) rfl
        have z4 := cell_of_heap hk3 4 (.int .u64 0) rfl
        have z5 := cell_of_heap hk3 5 (.int .u64 0) rfl
        have z6 := cell_of_heap hk3 6 (.pointer none) rfl
        have z7 := cell_of_heap hk3 7 (.int .u16 x.d) rfl
        have z8 := cell_of_heap hk3 8 (.int .u32 x.id) rfl
        have hlk := fun N => lookup_run (w := w3) 36 66 Yba.underlying36 (.pointer none) (fun w => by kernel_rfl) hp x.key true N
        simp only [Ybulkakzc.get, Option.getD_none, Option.isSome_none, if_true, kv, kc, Stp.key] at hlk
        have HR3 : Hid (RS w3 rb pm am C 0 m 0 0 0 pk [] al [] (fgs fl)) := hR
        have HM3 : Hid (Msg w3 mb x.key 0 0 (.pointer none) 0 x.fr x.st) := hM3
        have HS3 : Hid (Same wr w3) := hS3
        have HC3 : Hid (Core w0 w3 rb pm am mo qb m pk al ml fl qv (fl.map (·.k))) := hC3
        have Hs3 : Hid (w3.heap[sb]? = some (.cells (stc x) 99 (0, 0))) := hs3
        have Hk3 : Hid (w3.heap[kb]? = some (.cells (kc x.key).toArray 60 (0, 0))) := hk3
        clear hR hM3 hS3 hC3 hs3 hk3 hp
        go_upto_region 25 with fail
        go_quiet (fail)
        have hSA : Same w3 (w3.drewN nq) := same_drewN w3 nq
        have hRA := HR3.out.same hSA
        have hMA : Msg (w3.drewN nq) mb x.key 0 0 (.pointer none) 0 x.fr x.st := (hSA.block mb (lt_of_block HM3.out)).trans HM3.out
        have hsA := (hSA.block sb (lt_of_block Hs3.out)).trans Hs3.out
        have hkA := (hSA.block kb (lt_of_block Hk3.out)).trans Hk3.out
        have HSA : Hid (Same wr (w3.drewN nq)) := HS3.out.trans hSA
        generalize hwA : w3.drewN nq = wA at hRA hMA hsA hkA HSA ⊢
        clear hwA hSA HR3 HM3 HS3 HC3 Hs3 Hk3 hlk c10 z0 z1 z2 z3 z4 z5 z6 z7 z8
        have y6 := cell_of_heap hsA 6 (.int .u16 x.co) rfl
        have m13 := cell_of_heap hMA 13 (.int .i64 0) rfl
        have f13 : wA.frozen? ⟨mb, 13, none⟩ = false := by unfold Msg at hMA; simp [World.frozen?, hMA]
        have hwc : IntKind.i64.wrap x.co = x.co := by have h0 := hx.c0; have h1 := hx.c1; rw [IntKind.wrap_i64]; omega
        have HRA : Hid (RS wA rb pm am C 0 m 0 0 0 pk [] al [] (fgs fl)) := hRA
        have HMA : Hid (Msg wA mb x.key 0 0 (.pointer none) 0 x.fr x.st) := hMA
        have HsA : Hid (wA.heap[sb]? = some (.cells (stc x) 99 (0, 0))) := hsA
        have HkA : Hid (wA.heap[kb]? = some (.cells (kc x.key).toArray 60 (0, 0))) := hkA
        clear hRA hMA hsA hkA
        go_upto_region 28 with fail
        have hmr : mb ≠ rb := ne_msg_row HMA.out HRA.out.row (by decide)
        have hm4 : Msg (wA.setCell ⟨mb, 13, none⟩ (.int .i64 x.co)) mb x.key 0 0 (.pointer none) x.co x.fr x.st := by
          have := HMA.out
          unfold Msg at this ⊢
          rw [heap_set_same this]
          rfl
        obtain ⟨ap1, ap2, ap3, ap4, ap5⟩ := HRA.out.apart (by decide) (by decide) HMA.out
        have hR4 : RS (wA.setCell ⟨mb, 13, none⟩ (.int .i64 x.co)) rb pm am C 0 m 0 0 0 pk [] al [] (fgs fl) := HRA.out.congr (heap_set_other _ _ _ (Ne.symm ap1)) (heap_set_other _ _ _ (Ne.symm ap2)) (heap_set_other _ _ _ (Ne.symm ap3)) (fun b hb => by simp [blks] at hb) (fun b hb => heap_set_other _ _ _ (fun e => ap5 (e ▸ hb)))
        have hs4 : (wA.setCell ⟨mb, 13, none⟩ (.int .i64 x.co)).heap[sb]? = some (.cells (stc x) 99 (0, 0)) := (heap_set_other _ _ _ (Ne.symm HMB.out.1)).trans HsA.out
        have hk4 : (wA.setCell ⟨mb, 13, none⟩ (.int .i64 x.co)).heap[kb]? = some (.cells (kc x.key).toArray 60 (0, 0)) := (heap_set_other _ _ _ (Ne.symm HMB.out.2.1)).trans HkA.out
        have HS4 : Hid (Same wr (wA.setCell ⟨mb, 13, none⟩ (.int .i64 x.co))) := ⟨HSA.out.os, HSA.out.output, by rw [World.size_setCell]; exact HSA.out.size, fun j hj => (heap_set_other _ _ _ (by have := HMB.out.2.2; omega)).trans (HSA.out.block j hj)⟩
        generalize hw4 : wA.setCell ⟨mb, 13, none⟩ (.int .i64 x.co) = w4 at hm4 hR4 hs4 hk4 HS4 ⊢
        clear hw4 HRA HMA HsA HkA HSA y6 m13 f13
        have HR4 : Hid (RS w4 rb pm am C 0 m 0 0 0 pk [] al [] (fgs fl)) := hR4
        have HM4 : Hid (Msg w4 mb x.key 0 0 (.pointer none) x.co x.fr x.st) := hm4
        have Hs4 : Hid (w4.heap[sb]? = some (.cells (stc x) 99 (0, 0))) := hs4
        have Hk4 : Hid (w4.heap[kb]? = some (.cells (kc x.key).toArray 60 (0, 0))) := hk4
        clear hR4 hm4 hs4 hk4 ap1 ap2 ap3 ap4 ap5
        go_wp2_with fail
        refine (push_any w4 rb 11 C [] 66 (P2 mb 0) (by omega) HR4.out.row HR4.out.qs (by simp)).mono ?_
        rintro e w5 ⟨rfl, hz5, C5, hr5, hRing5, hC5, hQ5⟩
        dsimp only
        rw [List.nil_append] at hRing5
        have hm5 : w5.heap[mb]? = some (.cells (msg x.key 0 0 (.pointer none) x.co x.fr x.st) 71 (0, 0)) := (hQ5.block mb (lt_of_block HM4.out) hmr (by simp [blks])).trans HM4.out
        have m12 := cell_of_heap hm5 12 (.pointer none) rfl
        have f12 : w5.frozen? ⟨mb, 12, none⟩ = false := by simp [World.frozen?, hm5]
        have HR5 : Hid (w5.rowIs rb 47 26 C5 ∧ Ring w5 rb 11 C5 [(w4.heap.size, .iface 66 (P2 mb 0))] ∧ (∀ j, j ≠ 11 → j ≠ 11 + 1 → j ≠ 11 + 4 → C5 j = C j) ∧ QOnly rb [] w4 w5 ∧ w5.heap.size = w4.heap.size + 1) := ⟨hr5, hRing5, hC5, hQ5, hz5⟩
        obtain ⟨eb, heb⟩ : ∃ eb, eb = w4.heap.size := ⟨_, rfl⟩
        rw [← heb] at HR5 ⊢
        have HEB : Hid (eb = w4.heap.size) := heb
        have hps : pm ≠ rb ∧ pm ≠ mb ∧ pm < w4.heap.size := by
          obtain ⟨cp, hp⟩ := HR4.out.pmap
          exact ⟨ne_map_row hp HR4.out.row, Ne.symm (ne_msg_map HM4.out hp), lt_of_block hp⟩
        obtain ⟨cp', hp'⟩ := HR4.out.pmap
        have hp6 : (w5.setCell ⟨mb, 12, none⟩ (P2 eb 0)).heap[pm]? = some (.map (ents []) cp') := ((heap_set_other _ _ _ hps.2.1).trans (hQ5.block pm hps.2.2 hps.1 (by simp [blks]))).trans hp'
        obtain ⟨w7, c7, hup, ho7, hb7⟩ := mapPut_run (w := w5.setCell ⟨mb, 12, none⟩ (P2 eb 0)) 36 66 Yba.underlying36 hp6 x.key (P2 mb 0)
        have hup1 : (Instr.mapUpdate 36 (.map (some pm)) (kv x.key) (P2 mb 0)).run Yba.prog (w5.setCell ⟨mb, 12, none⟩ (P2 eb 0)).drew = .ok () w7.drew := hup 1
        simp only [kv, kc, Stp.key] at hup1
        have hr6 : (w5.setCell ⟨mb, 12, none⟩ (P2 eb 0)).rowIs rb 47 26 C5 := hr5.of_block (heap_set_other _ _ _ (Ne.symm hmr))
        have k10 := (hr6.cell (i := 10) (by omega)).trans (congrArg some ((hC5 10 (by omega) (by omega) (by omega)).trans HR4.out.rc.c10))
        have hk6 : (w5.setCell ⟨mb, 12, none⟩ (P2 eb 0)).heap[kb]? = some (.cells (kc x.key).toArray 60 (0, 0)) := ((heap_set_other _ _ _ (Ne.symm HMB.out.2.1)).trans (hQ5.block kb (lt_of_block Hk4.out) (ne_cells_row Hk4.out HR4.out.row (by decide)) (by simp [blks]))).trans Hk4.out
        have z0 := cell_of_heap hk6 0 (.int .u64 0) rfl
        have z1 := cell_of_heap hk6 1 (.int .u64 0) rfl
        have z2 := cell_of_heap hk6 2 (.pointer none) rfl
        have z3 := cell_of_heap hk6 3 (.int .u16 x.s) rfl
        have z4 := cell_of_heap hk6 4 (.int .u64 0) rfl
        have z5 := cell_of_heap hk6 5 (.int .u64 0) rfl
        have z6 := cell_of_heap hk6 6 (.pointer none) rfl
        have z7 := cell_of_heap hk6 7 (.int .u16 x.d) rfl
        have z8 := cell_of_heap hk6 8 (.int .u32 x.id) rfl
        have hbsub : blks ([] : List (Nat × Value)) = [] := rfl
        rw [heb] at ho7
        obtain ⟨hRS8, hM8, ho8, hu8, hz8, hB8, hr7, hM7⟩ := pend_post HR4.out HM4.out hz5 hr5 hRing5 hC5 hQ5 ho7 hb7
        have k16 := (hr7.cell (i := 16) (by omega)).trans (congrArg some ((hC5 16 (by omega) (by omega) (by omega)).trans HR4.out.rc.c16))
        have f16 := hr7.frozen 16
        have m13 := cell_of_heap hM7 13 (.int .i64 x.co) rfl
        have hPd : Pd wr (w7.setCell ⟨rb, 16, none⟩ (.int .i64 x.co)) rb pm am m pk al fl sb kb mb x := by
          refine ⟨ho8.trans HS4.out.os, hu8.trans HS4.out.output, Nat.le_trans HS4.out.size hz8, fun j hj h1 h2 => ?_, ?_, ?_, Or.inr ?_⟩
          · exact (hB8 j (Nat.lt_of_lt_of_le hj HS4.out.size) h1 h2 (by have := HMB.out.2.2; omega)).trans (HS4.out.block j hj)
          · obtain ⟨cp, hp⟩ := HR4.out.pmap
            exact (hB8 sb (lt_of_block Hs4.out) (ne_cells_row Hs4.out HR4.out.row (by decide)) (ne_cells_map Hs4.out hp) (Ne.symm HMB.out.1)).trans Hs4.out
          · obtain ⟨cp, hp⟩ := HR4.out.pmap
            exact (hB8 kb (lt_of_block Hk4.out) (ne_cells_row Hk4.out HR4.out.row (by decide)) (ne_cells_map Hk4.out hp) (Ne.symm HMB.out.2.1)).trans Hk4.out
          · obtain ⟨C8, hR8⟩ := hRS8
            refine ⟨C8, _, _, _, hR8, ?_, HS4.out.size, hM8⟩
            simp [put, dele, Ybulkakzc.K.same_self]
        have HPd : Hid (Pd wr (w7.setCell ⟨rb, 16, none⟩ (.int .i64 x.co)) rb pm am m pk al fl sb kb mb x) := hPd
        have hw0 : IntKind.i64.wrap (0 + x.co) = x.co := by rw [Int.zero_add]; exact hwc
        unfold P2 at hup1 k10 z0 z1 z2 z3 z4 z5 z6 z7 z8
        clear hRS8 hM8 ho8 hu8 hz8 hB8 hr7 hM7 hPd hup ho7 hb7 hr6 hk6 hp6 hm5 hz5 hr5 hRing5 hC5 hQ5 hps hp' heb HR5 HR4 HM4 Hs4 Hk4 HS4
        go_upto_region 29 with fail
        generalize hw6 : w5.setCell ⟨mb, 12, none⟩ (.pointer (some ⟨eb, 0, none⟩)) = w6 at *
        clear hw6 m12 f12
        go_region
        go_upto_region 30 with fail
        go_region
        go_wp2
        go_meet
        case rel => exact HPd.out.drew.drew
    case rest =>
      apply_assumption
      refine body2 w0 wr wc a c ao n cap m L tot pf rb pm am mo qb pk al ml fl qv i sb kb mb x K R _ _ _ _ _ _ _ _ _ _ _ _ _ _ _ _ _ _ _ _ _ _ _ _ _ _ _ _ _ _ _ _ _ _ _ _ _ _ _ _ _ _ _ _ _ _ _ _ _ _ _ _ _ _ _ _ _ _ _ _ _ _ _ _ _ _ _ _ _ _ _ _ _ _ _ _ _ _ _ _ _ _ _ _ _ _ _ _ _ _ _ _ _ _ _ _ _ _ _ _ _ _ _ _ _ _ _ _ _ _ _ _ _ _ _ _ _ _ _ _ _ _ _ _ _ _ _ _ _ _ _ _ _ _ _ _ _ _ _ _ _ _ _ _ _ _ _ _ _ _ _ _ _ _ _ _ _ _ _ _ _ _ _ _ _ _ _ _ _ _ _ _ _ _ _ _ _ _ _ _ _ _ _ _ _ _ _ _ _ _ _ _ _ _ _ _ _ _ _ _ _ _ _ _ _ _ _ _ _ _ _ _ _ _ _ _ _ _ _ _ _ _ _ _ _ _ _ _ _ _ _ _ _ _ _ _ _ _ _ _ _ _ _ _ _ _ _ _ _ _ _ _ _ _ _ _ _ _ _ _ _ _ _ _ _ _ _ _ _ _ _ _ _ _ _ _ _ _ _ _ _ _ _ _ _ _ _ _ _ _ _ _ _ _ _ _ _ _ _ _ _ _ _ _ _ hm HI.out hx hcut HSB2.out HKB.out.1 HMB.out.2.2 HMB.out.1 HMB.out.2.1 ?_
      clear hcut
      intro v19 v20 v23 v24 v25 v26 v27 v28 v29 v30 v31 v32 v33 v34 v35 v36 v37 v38 v39 v40 v41 v42 v43 v44 v45 v46 v47 v48 v49 v50 v51 v52 v53 v54 v55 v56 v57 v58 v59 v60 v61 v62 v63 v64 v65 v66 v67 v68 v69 v70 v71 v72 v73 v74 v75 v76 v77 v78 v79 v80 v81 v82 v83 v84 v85 v86 v87 v88 v89 v90 v91 v92 v93 v94 v95 v96 v97 v98 v99 v100 v101 v102 v103 v104 v105 v106 v107 v108 v109 v110 v111 v112 v113 v114 v115 v116 v117 v118 v119 v120 v121 v122 v123 v124 v125 v126 v127 v128 v129 v130 v131 v132 v133 v134 v135 v136 v137 v138 v139 v140 v141 v142 v143 v144 v145 v146 v147 v148 v149 v150 v151 v152 v153 v154 v155 v156 v157 v158 v159 v160 v161 v162 v163 v164 v165 v166 v167 v168 v169 v170 v171 v172 v173 v174 v175 v176 v177 v178 v179 v180 v181 v182 v183 v184 v185 v186 v187 v188 v189 v190 v191 v192 v193 v194 v195 v196 v197 v198 v199 v200 v201 v202 v203 v204 v205 v206 v207 v208 v209 v210 v211 v212 v213 v214 v215 v216 v217 v218 v219 v220 v221 v222 v223 v224 v225 v226 v227 v228 v229 v230 v231 v232 v233 v234 v235 v236 v237 v238 v239 v240 v241 v242 v243 v244 v245 v246 v247 v248 v249 v250 v251 v252 v253 v254 v255 v256 v257 v258 v259 v260 v261 v262 v263 v264 v265 v266 v267 v268 v269 v270 v271 v272 v273 v274 v275 v276 v277 v278 v279 v280 v281 v282 v283 v284 v285 v286 v287 v288 v289 v290 v291 v292 v293 v294 v295 v296 v297 v298 v299 v300 v301 v302 v303 v304 v305 v306 v307 v308 v309 v310 v311 v312 v313 v314 v315 v316 v317 v318 v319 v320 v321 v322 v323 w' rs db nb al6 hk6 hg6 hA hqd hd
      refine body3 w0 w' a c ao n cap m L tot pf rb pm am mo qb pk al6 ml fl (dropF m fl) _ qv i sb kb mb db nb rs x K R _ _ _ _ _ _ _ _ _ _ _ _ _ _ _ _ _ _ _ _ _ _ _ _ _ _ _ _ _ _ _ _ _ _ _ _ _ _ _ _ _ _ _ _ _ _ _ _ _ _ _ _ _ _ _ _ _ _ _ _ _ _ _ _ _ _ _ _ _ _ _ _ _ _ _ _ _ _ _ _ _ _ _ _ _ _ _ _ _ _ _ _ _ _ _ _ _ _ _ _ _ _ _ _ _ _ _ _ _ _ _ _ _ _ _ _ _ _ _ _ _ _ _ _ _ _ _ _ _ _ _ _ _ _ _ _ _ _ _ _ _ _ _ _ _ _ _ _ _ _ _ _ _ _ _ _ _ _ _ _ _ _ _ _ _ _ _ _ _ _ _ _ _ _ _ _ _ _ _ _ _ _ _ _ _ _ _ _ _ _ _ _ _ _ _ _ _ _ _ _ _ _ _ _ _ _ _ _ _ _ _ _ _ _ _ _ _ _ _ _ _ _ _ _ _ _ _ _ _ _ _ _ _ _ _ _ _ _ _ _ _ _ _ _ _ _ _ _ _ _ _ _ _ _ _ _ _ _ _ _ _ _ _ _ _ _ _ _ _ _ _ _ _ _ _ _ _ _ _ _ _ _ _ _ _ _ _ _ _ _ _ _ _ _ _ _ _ _ _ _ _ _ _ hm HLe.out HI.out.le rfl al HI.out.keys HI.out.tr HI.out.zero hk6 rfl hA hqd hd ?_
      intro v19 v20 v23 v24 v25 v26 v27 v28 v29 v30 v31 v32 v33 v34 v35 v36 v37 v38 v39 v40 v41 v42 v43 v44 v45 v46 v47 v48 v49 v50 v51 v52 v53 v54 v55 v56 v57 v58 v59 v60 v61 v62 v63 v64 v65 v66 v67 v68 v69 v70 v71 v72 v73 v74 v75 v76 v77 v78 v79 v80 v81 v82 v83 v84 v85 v86 v87 v88 v89 v90 v91 v92 v93 v94 v95 v96 v97 v98 v99 v100 v101 v102 v103 v104 v105 v106 v107 v108 v109 v110 v111 v112 v113 v114 v115 v116 v117 v118 v119 v120 v121 v122 v123 v124 v125 v126 v127 v128 v129 v130 v131 v132 v133 v134 v135 v136 v137 v138 v139 v140 v141 v142 v143 v144 v145 v146 v147 v148 v149 v150 v151 v152 v153 v154 v155 v156 v157 v158 v159 v160 v161 v162 v163 v164 v165 v166 v167 v168 v169 v170 v171 v172 v173 v174 v175 v176 v177 v178 v179 v180 v181 v182 v183 v184 v185 v186 v187 v188 v189 v190 v191 v192 v193 v194 v195 v196 v197 v198 v199 v200 v201 v202 v203 v204 v205 v206 v207 v208 v209 v210 v211 v212 v213 v214 v215 v216 v217 v218 v219 v220 v221 v222 v223 v224 v225 v226 v227 v228 v229 v230 v231 v232 v233 v234 v235 v236 v237 v238 v239 v240 v241 v242 v243 v244 v245 v246 v247 v248 v249 v250 v251 v252 v253 v254 v255 v256 v257 v258 v259 v260 v261 v262 v263 v264 v265 v266 v267 v268 v269 v270 v271 v272 v273 v274 v275 v276 v277 v278 v279 v280 v281 v282 v283 v284 v285 v286 v287 v288 v289 v290 v291 v292 v293 v294 v295 v296 v297 v298 v299 v300 v301 v302 v303 v304 v305 v306 v307 v308 v309 v310 v311 v312 v313 v314 v315 v316 v317 v318 v319 v320 v321 v322 v323 w'' qb' pk' ml' qv' hI' hs hk hd
      exact body4 w0 w'' a c ao n cap m L tot pf rb pm am mo qb' pk' al6 ml' (dropF m fl) qv' i sb kb mb db nb rs x K R _ _ _ _ _ _ _ _ _ _ _ _ _ _ _ _ _ _ _ _ _ _ _ _ _ _ _ _ _ _ _ _ _ _ _ _ _ _ _ _ _ _ _ _ _ _ _ _ _ _ _ _ _ _ _ _ _ _ _ _ _ _ _ _ _ _ _ _ _ _ _ _ _ _ _ _ _ _ _ _ _ _ _ _ _ _ _ _ _ _ _ _ _ _ _ _ _ _ _ _ _ _ _ _ _ _ _ _ _ _ _ _ _ _ _ _ _ _ _ _ _ _ _ _ _ _ _ _ _ _ _ _ _ _ _ _ _ _ _ _ _ _ _ _ _ _ _ _ _ _ _ _ _ _ _ _ _ _ _ _ _ _ _ _ _ _ _ _ _ _ _ _ _ _ _ _ _ _ _ _ _ _ _ _ _ _ _ _ _ _ _ _ _ _ _ _ _ _ _ _ _ _ _ _ _ _ _ _ _ _ _ _ _ _ _ _ _ _ _ _ _ _ _ _ _ _ _ _ _ _ _ _ _ _ _ _ _ _ _ _ _ _ _ _ _ _ _ _ _ _ _ _ _ _ _ _ _ _ _ _ _ _ _ _ _ _ _ _ _ _ _ _ _ _ _ _ _ _ _ _ _ _ _ _ _ _ _ _ _ _ _ _ _ _ _ _ _ _ _ _ _ _ _ hI' hg6 hs hk hd HK.out
end Go.Proofs.Ybulkakzc
