/-
  THE LAW OF ABANDONING (seat b1835a): one round, the law's own books.
-/
import Derived.Test.YbulkakzcBody2
import Derived.BigQuiet
namespace Go.Proofs.Ybulkakzc
open Go.RowKit
set_option linter.unusedSimpArgs false

/-- len(m) -/
theorem len_run {w : World} (M e : TypeId) (hM : Yba.prog.underlying M = some (.map 60 e)) {r : Nat} {l : List En} {c : Nat} (hb : w.heap[r]? = some (.map (ents l) c)) (ty : TypeId) :
    (Builtin.len_ #[M] ty #[.map (some r)]).run Yba.prog w = .ok (.int .i64 (l.length : Int)) w := by
  have hg := MapKept.run_getObj_map (P := Yba.prog) (w := w) hb
  simp [Builtin.len_, run_underlying hM, hg, goInt, length_ents]

section
variable {w0 w w' : World} {rb pm am mo qb : Nat} {m pk : Int} {al ml : List En} {fl : List Fq} {qv : Value} {l : List K} {sb kb mb : Nat} {x : Stp}
theorem Aft.model (h : Aft w0 w rb pm am mo qb m pk al ml fl qv l sb kb mb x) {ml' : List En} {c' : Nat} (ho : OnlyB mo w w') (hm' : w'.heap[mo]? = some (.map (ents ml') c')) : Aft w0 w' rb pm am mo qb m pk al ml' fl qv l sb kb mb x := by
  obtain ⟨co, hm⟩ := h.hm
  obtain ⟨c, hmo⟩ := h.core.mod
  exact ⟨h.core.model ho hm', (ho.block _ (ne_cells_map h.hs hmo)).trans h.hs, (ho.block _ (ne_cells_map h.hk hmo)).trans h.hk, ⟨co, (ho.block _ (ne_cells_map hm hmo)).trans hm⟩, h.n1, h.n2, h.n3⟩
theorem Aft.slice (h : Aft w0 w rb pm am mo qb m pk al ml fl qv l sb kb mb x) {qv' : Value} {qb' : Nat} {l' : List K} (hq : Qs w' qv' qb' l') (hb' : qb' = qb ∨ w.heap.size ≤ qb') (hlt : qb' < w'.heap.size) (ho : w'.os = w.os) (hu : w'.output = w.output) (hz : w.heap.size ≤ w'.heap.size) (hblk : ∀ j, j < w.heap.size → j ≠ qb → w'.heap[j]? = w.heap[j]?) :
    Aft w0 w' rb pm am mo qb' m pk al ml fl qv' l' sb kb mb x := by
  obtain ⟨co, hm⟩ := h.hm
  have z1 := lt_of_block h.hs
  have z2 := lt_of_block h.hk
  have z3 := lt_of_block hm
  have n1 := h.n1
  have n2 := h.n2
  have n3 := h.n3
  refine ⟨h.core.slice hq hb' hlt ho hu hz hblk, (hblk _ z1 (Ne.symm n1)).trans h.hs, (hblk _ z2 (Ne.symm n2)).trans h.hk, ⟨co, (hblk _ z3 (Ne.symm n3)).trans hm⟩, ?_, ?_, ?_⟩
  · rcases hb' with rfl | hb' <;> omega
  · rcases hb' with rfl | hb' <;> omega
  · rcases hb' with rfl | hb' <;> omega
end
theorem Qs.lt {w : World} {v : Value} {b : Nat} {l : List K} (h : Qs w v b l) (hne : l ≠ []) : b < w.heap.size := by
  obtain ⟨ao, off, cap, hv, hm, hc, hlt⟩ := h.came
  have := hc.le
  have h0 : 0 < l.length := List.length_pos_iff.2 hne
  exact hlt (by omega)

/-- An append whose run is known. -/
theorem wpList_app {ops : Array Oper} {rest : List Oper} {o : Oper} {a : Act} {w w' : World} {Q : Exit → Act → World → Prop} {v xv v' : Value} (hgd : o.guard = none) (s x : Operand) (ho : o.op = .call { callee := .builtin .append, args := #[s, x], argTypes := #[96, 96] })
    (hv : a.eval s = v) (hx : a.eval x = xv) (hrun : (Builtin.append_ #[96, 96] o.type #[v, xv]).run Yba.prog w = .ok v' w') (h : wpList Yba.prog ops Q rest (a.put o.dst v') w') : wpList Yba.prog ops Q (o :: rest) a w := by
  refine wpList_plain hgd fun K hK' => ?_
  unfold Oper.wp
  simp [execOp, ho, resolve, invoke, builtin, hv, hx, hrun, Result.andThen]
  exact hK' _ _ h

set_option maxRecDepth 100000 in
set_option maxHeartbeats 8000000 in
theorem body3 (w0 w : World) (a c : Int) (ao : Option Addr) (n cap : Nat) (m L tot : Int) (pf : Nat) (rb pm am mo qb : Nat) (pk : Int) (al6 ml : List En) (fl fl1 : List Fq) (pk6 : Int) (qv : Value) (i : Nat) (sb kb mb db nb : Nat) (rs : ByteArray) (x : Stp) (K : Act → World → Prop) (R : Ending → World → Prop) (v19 v20 v23 v24 v25 v26 v27 v28 v29 v30 v31 v32 v33 v34 v35 v36 v37 v38 v39 v40 v41 v42 v43 v44 v45 v46 v47 v48 v49 v50 v51 v52 v53 v54 v55 v56 v57 v58 v59 v60 v61 v62 v63 v64 v65 v66 v67 v68 v69 v70 v71 v72 v73 v74 v75 v76 v77 v78 v79 v80 v81 v82 v83 v84 v85 v86 v87 v88 v89 v90 v91 v92 v93 v94 v95 v96 v97 v98 v99 v100 v101 v102 v103 v104 v105 v106 v107 v108 v109 v110 v111 v112 v113 v114 v115 v116 v117 v118 v119 v120 v121 v122 v123 v124 v125 v126 v127 v128 v129 v130 v131 v132 v133 v134 v135 v136 v137 v138 v139 v140 v141 v142 v143 v144 v145 v146 v147 v148 v149 v150 v151 v152 v153 v154 v155 v156 v157 v158 v159 v160 v161 v162 v163 v164 v165 v166 v167 v168 v169 v170 v171 v172 v173 v174 v175 v176 v177 v178 v179 v180 v181 v182 v183 v184 v185 v186 v187 v188 v189 v190 v191 v192 v193 v194 v195 v196 v197 v198 v199 v200 v201 v202 v203 v204 v205 v206 v207 v208 v209 v210 v211 v212 v213 v214 v215 v216 v217 v218 v219 v220 v221 v222 v223 v224 v225 v226 v227 v228 v229 v230 v231 v232 v233 v234 v235 v236 v237 v238 v239 v240 v241 v242 v243 v244 v245 v246 v247 v248 v249 v250 v251 v252 v253 v254 v255 v256 v257 v258 v259 v260 v261 v262 v263 v264 v265 v266 v267 v268 v269 v270 v271 v272 v273 v274 v275 v276 v277 v278 v279 v280 v281 v282 v283 v284 v285 v286 v287 v288 v289 v290 v291 v292 v293 v294 v295 v296 v297 v298 v299 v300 v301 v302 v303 v304 v305 v306 v307 v308 v309 v310 v311 v312 v313 v314 v315 v316 v317 v318 v319 v320 v321 v322 v323 : Value)
    (hm : m = 0 ∨ m = 1 ∨ m = 2) (hL : L = 16 * lim m) (hle : (fl.length : Int) ≤ 16 * lim m) (hfl1 : fl1 = dropF m fl) (al : List En) (hkey : keysOf ml = keysOf al) (htr : AllT ml) (hzero : ∀ y ∈ fl, y.aw = 0 ∧ y.ae = 0)
    (hk6 : keysOf al6 = kput x.key (keysOf (dropA m al fl))) (hpk6 : pk6 = if pk < (fl1.length + 1 : Int) then (fl1.length + 1 : Int) else pk)
    (hA : Aft w0 w rb pm am mo qb m pk6 al6 ml (fl1 ++ [⟨nb, x.key, 0, 0⟩]) qv (fl.map (·.k)) sb kb mb x) (hqd : qb ≠ db) (hd : w.heap[db]? = some (.cells (dg x.key (ver x.st) rs x.fr) 88 (0, 0)))
    (h42 : ∀ (v19 v20 v23 v24 v25 v26 v27 v28 v29 v30 v31 v32 v33 v34 v35 v36 v37 v38 v39 v40 v41 v42 v43 v44 v45 v46 v47 v48 v49 v50 v51 v52 v53 v54 v55 v56 v57 v58 v59 v60 v61 v62 v63 v64 v65 v66 v67 v68 v69 v70 v71 v72 v73 v74 v75 v76 v77 v78 v79 v80 v81 v82 v83 v84 v85 v86 v87 v88 v89 v90 v91 v92 v93 v94 v95 v96 v97 v98 v99 v100 v101 v102 v103 v104 v105 v106 v107 v108 v109 v110 v111 v112 v113 v114 v115 v116 v117 v118 v119 v120 v121 v122 v123 v124 v125 v126 v127 v128 v129 v130 v131 v132 v133 v134 v135 v136 v137 v138 v139 v140 v141 v142 v143 v144 v145 v146 v147 v148 v149 v150 v151 v152 v153 v154 v155 v156 v157 v158 v159 v160 v161 v162 v163 v164 v165 v166 v167 v168 v169 v170 v171 v172 v173 v174 v175 v176 v177 v178 v179 v180 v181 v182 v183 v184 v185 v186 v187 v188 v189 v190 v191 v192 v193 v194 v195 v196 v197 v198 v199 v200 v201 v202 v203 v204 v205 v206 v207 v208 v209 v210 v211 v212 v213 v214 v215 v216 v217 v218 v219 v220 v221 v222 v223 v224 v225 v226 v227 v228 v229 v230 v231 v232 v233 v234 v235 v236 v237 v238 v239 v240 v241 v242 v243 v244 v245 v246 v247 v248 v249 v250 v251 v252 v253 v254 v255 v256 v257 v258 v259 v260 v261 v262 v263 v264 v265 v266 v267 v268 v269 v270 v271 v272 v273 v274 v275 v276 v277 v278 v279 v280 v281 v282 v283 v284 v285 v286 v287 v288 v289 v290 v291 v292 v293 v294 v295 v296 v297 v298 v299 v300 v301 v302 v303 v304 v305 v306 v307 v308 v309 v310 v311 v312 v313 v314 v315 v316 v317 v318 v319 v320 v321 v322 v323 : Value) (w' : World) (qb' : Nat) (pk' : Int) (ml' : List En) (qv' : Value), Inv w0 w' rb pm am mo qb' m pk' al6 ml' (fl1 ++ [⟨nb, x.key, 0, 0⟩]) qv' → w'.heap[sb]? = some (.cells (stc x) 99 (0, 0)) → w'.heap[kb]? = some (.cells (kc x.key).toArray 60 (0, 0)) → w'.heap[db]? = some (.cells (dg x.key (ver x.st) rs x.fr) 88 (0, 0)) → Code.wp Yba.prog (fromR 42 (Yba.f4.body.getD .skip)) (Exit.inBlock 2 (Exit.then K (bodyPost Yba.prog Yba.f4 R))) ⟨#[.int .u8 a, .int .u8 c, .slice ao n cap, undef, undef, undef, .bool false, .int .i64 m, P2 rb 0, .int .i64 L, .int .i64 (pf : Int), .int .i64 tot, qv', .map (some mo), .int .i64 pk', .int .i64 i, P2 sb 0, P2 kb 0, P2 mb 0, v19, v20, .string rs, P2 db 0, v23, v24, v25, v26, v27, v28, v29, v30, v31, v32, v33, v34, v35, v36, v37, v38, v39, v40, v41, v42, v43, v44, v45, v46, v47, v48, v49, v50, v51, v52, v53, v54, v55, v56, v57, v58, v59, v60, v61, v62, v63, v64, v65, v66, v67, v68, v69, v70, v71, v72, v73, v74, v75, v76, v77, v78, v79, v80, v81, v82, v83, v84, v85, v86, v87, v88, v89, v90, v91, v92, v93, v94, v95, v96, v97, v98, v99, v100, v101, v102, v103, v104, v105, v106, v107, v108, v109, v110, v111, v112, v113, v114, v115, v116, v117, v118, v119, v120, v121, v122, v123, v124, v125, v126, v127, v128, v129, v130, v131, v132, v133, v134, v135, v136, v137, v138, v139, v140, v141, v142, v143, v144, v145, v146, v147, v148, v149, v150, v151, v152, v153, v154, v155, v156, v157, v158, v159, v160, v161, v162, v163, v164, v165, v166, v167, v168, v169, v170, v171, v172, v173, v174, v175, v176, v177, v178, v179, v180, v181, v182, v183, v184, v185, v186, v187, v188, v189, v190, v191, v192, v193, v194, v195, v196, v197, v198, v199, v200, v201, v202, v203, v204, v205, v206, v207, v208, v209, v210, v211, v212, v213, v214, v215, v216, v217, v218, v219, v220, v221, v222, v223, v224, v225, v226, v227, v228, v229, v230, v231, v232, v233, v234, v235, v236, v237, v238, v239, v240, v241, v242, v243, v244, v245, v246, v247, v248, v249, v250, v251, v252, v253, v254, v255, v256, v257, v258, v259, v260, v261, v262, v263, v264, v265, v266, v267, v268, v269, v270, v271, v272, v273, v274, v275, v276, v277, v278, v279, v280, v281, v282, v283, v284, v285, v286, v287, v288, v289, v290, v291, v292, v293, v294, v295, v296, v297, v298, v299, v300, v301, v302, v303, v304, v305, v306, v307, v308, v309, v310, v311, v312, v313, v314, v315, v316, v317, v318, v319, v320, v321, v322, v323], []⟩ w') :
    Code.wp Yba.prog (fromR 33 (Yba.f4.body.getD .skip)) (Exit.inBlock 2 (Exit.then K (bodyPost Yba.prog Yba.f4 R))) ⟨#[.int .u8 a, .int .u8 c, .slice ao n cap, undef, undef, undef, .bool false, .int .i64 m, P2 rb 0, .int .i64 L, .int .i64 (pf : Int), .int .i64 tot, qv, .map (some mo), .int .i64 pk, .int .i64 i, P2 sb 0, P2 kb 0, P2 mb 0, v19, v20, .string rs, P2 db 0, v23, v24, v25, v26, v27, v28, v29, v30, v31, v32, v33, v34, v35, v36, v37, v38, v39, v40, v41, v42, v43, v44, v45, v46, v47, v48, v49, v50, v51, v52, v53, v54, v55, v56, v57, v58, v59, v60, v61, v62, v63, v64, v65, v66, v67, v68, v69, v70, v71, v72, v73, v74, v75, v76, v77, v78, v79, v80, v81, v82, v83, v84, v85, v86, v87, v88, v89, v90, v91, v92, v93, v94, v95, v96, v97, v98, v99, v100, v101, v102, v103, v104, v105, v106, v107, v108, v109, v110, v111, v112, v113, v114, v115, v116, v117, v118, v119, v120, v121, v122, v123, v124, v125, v126, v127, v128, v129, v130, v131, v132, v133, v134, v135, v136, v137, v138, v139, v140, v141, v142, v143, v144, v145, v146, v147, v148, v149, v150, v151, v152, v153, v154, v155, v156, v157, v158, v159, v160, v161, v162, v163, v164, v165, v166, v167, v168, v169, v170, v171, v172, v173, v174, v175, v176, v177, v178, v179, v180, v181, v182, v183, v184, v185, v186, v187, v188, v189, v190, v191, v192, v193, v194, v195, v196, v197, v198, v199, v200, v201, v202, v203, v204, v205, v206, v207, v208, v209, v210, v211, v212, v213, v214, v215, v216, v217, v218, v219, v220, v221, v222, v223, v224, v225, v226, v227, v228, v229, v230, v231, v232, v233, v234, v235, v236, v237, v238, v239, v240, v241, v242, v243, v244, v245, v246, v247, v248, v249, v250, v251, v252, v253, v254, v255, v256, v257, v258, v259, v260, v261, v262, v263, v264, v265, v266, v267, v268, v269, v270, v271, v272, v273, v274, v275, v276, v277, v278, v279, v280, v281, v282, v283, v284, v285, v286, v287, v288, v289, v290, v291, v292, v293, v294, v295, v296, v297, v298, v299, v300, v301, v302, v303, v304, v305, v306, v307, v308, v309, v310, v311, v312, v313, v314, v315, v316, v317, v318, v319, v320, v321, v322, v323], []⟩ w := by
  dsimp only at h42 ⊢
  conv => arg 2; whnf
  unfold P2
  have hlim : 1 ≤ lim m ∧ lim m ≤ 64 := by unfold lim; split <;> omega
  obtain ⟨C, hR⟩ := hA.core.rs
  obtain ⟨cp, hp⟩ := hR.pmap
  have hln := fun ty => len_run 36 66 Yba.underlying36 hp ty
  simp only [List.length_nil, Int.ofNat_zero] at hln
  obtain ⟨co, hM⟩ := hA.hm
  have c10 := (hR.row.cell (i := 10) (by omega)).trans (congrArg some hR.rc.c10)
  have c15 := (hR.row.cell (i := 11 + 4) (by omega)).trans (congrArg some hR.qs.len)
  have c16 := (hR.row.cell (i := 16) (by omega)).trans (congrArg some hR.rc.c16)
  have m12 := cell_of_heap hM 12 (.pointer none) rfl
  have HK : Hid _ := h42
  have HA : Hid (Aft w0 w rb pm am mo qb m pk6 al6 ml (fl1 ++ [⟨nb, x.key, 0, 0⟩]) qv (fl.map (·.k)) sb kb mb x) := hA
  have HD : Hid (w.heap[db]? = some (.cells (dg x.key (ver x.st) rs x.fr) 88 (0, 0))) := hd
  have HL : Hid (L = 16 * lim m) := hL
  have HF1 : Hid (fl1 = dropF m fl) := hfl1
  have HK6 : Hid (keysOf al6 = kput x.key (keysOf (dropA m al fl))) := hk6
  have HP6 : Hid (pk6 = if pk < (fl1.length + 1 : Int) then (fl1.length + 1 : Int) else pk) := hpk6
  have HKY : Hid (keysOf ml = keysOf al) := hkey
  have HTR : Hid (AllT ml) := htr
  have HZ : Hid (∀ y ∈ fl, y.aw = 0 ∧ y.ae = 0) := hzero
  clear h42 hA hd hL hfl1 hk6 hpk6 hkey htr hzero hp hR hM
  obtain ⟨qao, qoff, qcap, hqv, hqm, hqc, hqlt⟩ := HA.out.core.q.came
  have HQC : Hid _ := hqc
  have hqle := hqc.le
  clear hqc
  rw [List.length_map] at hqle hqv
  subst hqv
  go_wp2_with fail
  refine (len_any w rb 11 0 c15).mono ?_
  rintro e w1 ⟨rfl, rfl⟩
  dsimp only
  go_upto_if 175 with fail
  have hd88 : ∀ w' : World, True := fun _ => trivial
  clear hd88 hln c10 c15 c16 m12
  go_cut [12] from 145 to 181 (fun v12 wx => ∃ ml1, keysOf ml1 = keysOf (dropA m al fl) ∧ AllT ml1 ∧ Aft w0 wx rb pm am mo qb m pk6 al6 ml1 (fl1 ++ [⟨nb, x.key, 0, 0⟩]) v12 (fl1.map (·.k)) sb kb mb x ∧ wx.heap[db]? = some (.cells (dg x.key (ver x.st) rs x.fr) 88 (0, 0)))
  case first =>
    by_cases hfull : 16 * lim m ≤ (fl.length : Int)
    · have e1 : decide (L ≤ (fl.length : Int)) = true := by rw [HL.out]; simpa using hfull
      simp only [e1]
      clear e1
      cases fl with
      | nil => simp at hfull; omega
      | cons y fl2 =>
        have hat := Qs.at HQC.out 0 y.k rfl
        rw [Nat.zero_mul, Nat.add_zero] at hat
        obtain ⟨q0, q1, q2, q3, q4, q5, q6, q7, q8⟩ := hat
        have hcapp : 0 < qcap := by simp at hqle; omega
        have hao := HQC.out.addr hcapp
        subst hao
        obtain ⟨cm, hmo⟩ := HA.out.core.mod
        obtain ⟨w2, hdel, ho2, hb2⟩ := delete_run (w := w) 97 4 Yba.underlying97 hmo y.k
        have hdel0 := fun T => hdel T 0
        simp only [World.drewN_zero, kv, kc] at hdel0
        have hA2 := HA.out.model ho2 hb2
        have hqc2 : Came w2 9 (some ⟨qb, qoff, none⟩) qb qoff (fl2.length + 1) qcap (flat (y.k :: fl2.map (·.k))) := came_block (by have := HQC.out; simp only [List.map_cons, List.length_cons, List.length_map] at this; exact this) (by rw [ho2.size]; exact Nat.le_refl _) (fun _ => ho2.block qb HA.out.core.q4)
        have HA2 : Hid (Aft w0 w2 rb pm am mo qb m pk6 al6 (dele y.k ml) (fl1 ++ [⟨nb, x.key, 0, 0⟩]) (.slice (some ⟨qb, qoff, none⟩) (fl2.length + 1) qcap) ((y :: fl2).map (·.k)) sb kb mb x) := hA2
        have HQC2 : Hid _ := hqc2
        have HO2 : Hid (OnlyB mo w w2) := ho2
        have HFU : Hid (16 * lim m ≤ (((y :: fl2).length : Nat) : Int)) := hfull
        clear hdel hA2 hqc2 ho2 hb2 hfull
        go_wp2
        all_goals
          go_meet
          case rel =>
            have hF := HFU.out
            have g1 : dropF m (y :: fl2) = fl2 := by unfold dropF; rw [if_pos hF]; rfl
            have g2 : dropA m al (y :: fl2) = dele y.k al := by unfold dropA; rw [if_pos hF]
            refine ⟨dele y.k ml, by rw [g2, keysOf_dele, keysOf_dele, HKY.out], HTR.out.dele, ?_, ?_⟩
            · have g3 : fl1.map (·.k) = fl2.map (·.k) := by rw [HF1.out, g1]
              rw [g3]
              have hQC3 := HQC2.out
              rw [show fl2.length = (fl2.map fun z : Fq => z.k).length by simp] at hQC3
              have hz : qcap - 1 = 0 ∨ 0 < qcap - 1 := by omega
              refine HA2.out.slice ?_ (Or.inl rfl) HA2.out.core.q6 rfl rfl (Nat.le_refl _) (fun _ _ _ => rfl)
              have hpop := fun ao' h => Qs.pop hqm hQC3 ao' h
              rw [List.length_map] at hpop
              first
                | exact hpop _ (fun _ => rfl)
                | (have h0 : qcap - 1 = 0 := by omega
                   rw [h0] at hpop
                   exact hpop _ (fun h => by omega))
            · obtain ⟨cm, hmo⟩ := HA.out.core.mod
              exact (HO2.out.block db (ne_cells_map HD.out hmo)).trans HD.out
    · have e1 : decide (L ≤ (fl.length : Int)) = false := by rw [HL.out]; simpa using hfull
      simp only [e1]
      clear e1
      have HFU : Hid (¬ 16 * lim m ≤ (fl.length : Int)) := hfull
      clear hfull
      go_wp2
      go_meet
      case rel =>
        have g1 : dropF m fl = fl := by unfold dropF; rw [if_neg (by have := HFU.out; omega)]
        have g2 : dropA m al fl = al := by unfold dropA; rw [if_neg (by have := HFU.out; omega)]
        refine ⟨ml, by rw [g2]; exact HKY.out, HTR.out, ?_, HD.out⟩
        rw [HF1.out, g1] at HA ⊢
        exact HA.out
  case rest =>
    obtain ⟨ml1, hk1, ht1, hA1, hd1⟩ := hcut
    have hk := hA1.hk
    have z0 := cell_of_heap hk 0 (.int .u64 0) rfl
    have z1 := cell_of_heap hk 1 (.int .u64 0) rfl
    have z2 := cell_of_heap hk 2 (.pointer none) rfl
    have z3 := cell_of_heap hk 3 (.int .u16 x.s) rfl
    have z4 := cell_of_heap hk 4 (.int .u64 0) rfl
    have z5 := cell_of_heap hk 5 (.int .u64 0) rfl
    have z6 := cell_of_heap hk 6 (.pointer none) rfl
    have z7 := cell_of_heap hk 7 (.int .u16 x.d) rfl
    have z8 := cell_of_heap hk 8 (.int .u32 x.id) rfl
    have HA1 : Hid (Aft w0 wc rb pm am mo qb m pk6 al6 ml1 (fl1 ++ [⟨nb, x.key, 0, 0⟩]) u12 (fl1.map (·.k)) sb kb mb x) := hA1
    have HD1 : Hid (wc.heap[db]? = some (.cells (dg x.key (ver x.st) rs x.fr) 88 (0, 0))) := hd1
    have HT1 : Hid (AllT ml1) := ht1
    have HK1 : Hid (keysOf ml1 = keysOf (dropA m al fl)) := hk1
    clear hk hA1 hd1 ht1 hk1 HA HD HQC
    obtain ⟨wk, hwk⟩ : ∃ wk, wk = wc.alloc (.cells (kc x.key).toArray 60) := ⟨_, rfl⟩
    have hAk := HA1.out.same ((Same.refl wc).alloc (.cells (kc x.key).toArray 60))
    have hdk := (Below.heap_alloc wc (.cells (kc x.key).toArray 60) db (lt_of_block HD1.out)).trans HD1.out
    have hnk := heap_alloc_new wc (.cells (kc x.key).toArray 60)
    rw [← hwk] at hAk hdk hnk
    have hl1 : (fl1.map (·.k)).length + 1 ≤ 1000000 := by
      rw [List.length_map, HF1.out]
      have : (dropF m fl).length ≤ fl.length := by unfold dropF; split <;> simp
      omega
    obtain ⟨v2, w2, qb2, happ, hQ2, hq2, ho2, hu2, hz2, hB2⟩ := hAk.core.q.push x.key 96 96 60 Yba.underlying96 ⟨wc.heap.size, 0, none⟩ 1 (by
      intro j u hu
      have : j < 9 := by have := (List.getElem?_eq_some_iff.1 hu).1; rwa [kc_length] at this
      rw [Addr.add_lit, Nat.zero_add]
      exact cell_of_heap hnk j u (by simpa using hu)) hl1
    have hb2lt : qb2 < w2.heap.size := hQ2.lt (by simp)
    have hA2 := hAk.slice hQ2 hq2 hb2lt ho2 hu2 hz2 hB2
    have hd2 : w2.heap[db]? = some (.cells (dg x.key (ver x.st) rs x.fr) 88 (0, 0)) := (hB2 db (lt_of_block hdk) (Ne.symm hqd)).trans hdk
    obtain ⟨cm, hmo⟩ := hA2.core.mod
    obtain ⟨w3, c3, hup, ho3, hb3⟩ := mapPut_run (w := w2) 97 4 Yba.underlying97 hmo x.key (.bool true)
    have hup0 := hup 0
    simp only [World.drewN_zero, kv, kc, Stp.key] at hup0
    have hA3 := hA2.model ho3 hb3
    have hd3 : w3.heap[db]? = some (.cells (dg x.key (ver x.st) rs x.fr) 88 (0, 0)) := (ho3.block db (ne_cells_map hd2 hmo)).trans hd2
    have hk2 := hA2.hk
    have y0 := cell_of_heap hk2 0 (.int .u64 0) rfl
    have y1 := cell_of_heap hk2 1 (.int .u64 0) rfl
    have y2 := cell_of_heap hk2 2 (.pointer none) rfl
    have y3 := cell_of_heap hk2 3 (.int .u16 x.s) rfl
    have y4 := cell_of_heap hk2 4 (.int .u64 0) rfl
    have y5 := cell_of_heap hk2 5 (.int .u64 0) rfl
    have y6 := cell_of_heap hk2 6 (.pointer none) rfl
    have y7 := cell_of_heap hk2 7 (.int .u16 x.d) rfl
    have y8 := cell_of_heap hk2 8 (.int .u32 x.id) rfl
    obtain ⟨ao2, off2, cap2, hv2, _⟩ := hQ2.came
    rw [List.length_append, List.length_map, List.length_cons, List.length_nil, Nat.zero_add] at hv2
    have HA3 : Hid (Aft w0 w3 rb pm am mo qb2 m pk6 al6 (put x.key (.bool true) cm ml1) (fl1 ++ [⟨nb, x.key, 0, 0⟩]) v2 (fl1.map (·.k) ++ [x.key]) sb kb mb x) := hA3
    have HD3 : Hid (w3.heap[db]? = some (.cells (dg x.key (ver x.st) rs x.fr) 88 (0, 0))) := hd3
    have HAP : Hid ((Builtin.append_ #[96, 96] 96 #[u12, .slice (some ⟨wc.heap.size, 0, none⟩) 1 1]).run Yba.prog wk = .ok v2 w2) := happ
    subst hwk
    clear hA3 hd3 hAk hdk hnk hQ2 hq2 ho2 hu2 hz2 hB2 hb2lt hA2 hd2 hmo hup ho3 hb3 hk2 happ hl1
    subst hv2
    go_upto_region 38 with fail
    refine wp_region_lit ?_
    refine wpList_plain rfl fun Kn hKn => ?_
    refine wp_of_run (v := u12) (w' := wc) (by kernel_rfl) ?_
    refine hKn _ _ ?_
    clear hKn Kn
    simp only [Act.put, List.setIfInBounds_toArray, List.set_cons_zero, List.set_cons_succ]
    refine wpList_load_row rfl 60 (.tmp 17) rfl kb (by rfl) 60 _ _ _ HA1.out.hk (by rfl) (by rfl) (by kernel_rfl) ?_
    simp only [Act.put, List.setIfInBounds_toArray, List.set_cons_zero, List.set_cons_succ]
    refine wpList_plain rfl fun Kn hKn => ?_
    refine wp_of_run (v := .slice (some ⟨wc.heap.size, 0, none⟩) 1 1) (w' := wc.alloc (.cells (kc x.key).toArray 60)) (by kernel_rfl) ?_
    refine hKn _ _ ?_
    clear hKn Kn
    simp only [Act.put, List.setIfInBounds_toArray, List.set_cons_zero, List.set_cons_succ]
    refine wpList_app rfl (.tmp 182) (.tmp 184) rfl rfl rfl HAP.out ?_
    simp only [Act.put, List.setIfInBounds_toArray, List.set_cons_zero, List.set_cons_succ]
    clear z0 z1 z2 z3 z4 z5 z6 z7 z8
    go_upto_if 191 with fail
    clear y0 y1 y2 y3 y4 y5 y6 y7 y8 hup0
    go_cut [14] from 182 to 193 (fun v14 wx => v14 = .int .i64 pk6 ∧ wx = w3)
    case first =>
      by_cases hpk : pk < ((fl1.length + 1 : Nat) : Int)
      · have e1 : decide (pk < ((fl1.length + 1 : Nat) : Int)) = true := by simpa using hpk
        have e2 : decide (pk < (fl1.length : Int) + 1) = true := by simp; omega
        simp only [e1, e2]
        have hpk' : pk < (fl1.length : Int) + 1 := by omega
        have HPK : Hid (pk < (fl1.length : Int) + 1) := hpk'
        clear hpk'
        clear e1 e2 hpk
        go_wp2
        go_meet
        case rel =>
          refine ⟨?_, rfl⟩
          rw [HP6.out, if_pos HPK.out]
      · have e1 : decide (pk < ((fl1.length + 1 : Nat) : Int)) = false := by simpa using hpk
        have e2 : decide (pk < (fl1.length : Int) + 1) = false := by simp; omega
        simp only [e1, e2]
        have hpk' : ¬ pk < (fl1.length : Int) + 1 := by omega
        have HPK : Hid (¬ pk < (fl1.length : Int) + 1) := hpk'
        clear hpk'
        clear e1 e2 hpk
        go_wp2
        go_meet
        case rel =>
          refine ⟨?_, rfl⟩
          rw [HP6.out, if_neg (by have := HPK.out; omega)]
    case rest =>
      obtain ⟨hv14, rfl⟩ := hcut
      subst hv14
      apply_assumption
      refine HK.out _ _ _ _ _ _ _ _ _ _ _ _ _ _ _ _ _ _ _ _ _ _ _ _ _ _ _ _ _ _ _ _ _ _ _ _ _ _ _ _ _ _ _ _ _ _ _ _ _ _ _ _ _ _ _ _ _ _ _ _ _ _ _ _ _ _ _ _ _ _ _ _ _ _ _ _ _ _ _ _ _ _ _ _ _ _ _ _ _ _ _ _ _ _ _ _ _ _ _ _ _ _ _ _ _ _ _ _ _ _ _ _ _ _ _ _ _ _ _ _ _ _ _ _ _ _ _ _ _ _ _ _ _ _ _ _ _ _ _ _ _ _ _ _ _ _ _ _ _ _ _ _ _ _ _ _ _ _ _ _ _ _ _ _ _ _ _ _ _ _ _ _ _ _ _ _ _ _ _ _ _ _ _ _ _ _ _ _ _ _ _ _ _ _ _ _ _ _ _ _ _ _ _ _ _ _ _ _ _ _ _ _ _ _ _ _ _ _ _ _ _ _ _ _ _ _ _ _ _ _ _ _ _ _ _ _ _ _ _ _ _ _ _ _ _ _ _ _ _ _ _ _ _ _ _ _ _ _ _ _ _ _ _ _ _ _ _ _ _ _ _ _ _ _ _ _ _ _ _ _ _ _ _ _ _ _ _ _ _ _ _ _ _ _ _ _ _ _ _ _ _ _ _ _ qb2 pk6 (put x.key (.bool true) cm ml1) _ ?_ HA3.out.hs HA3.out.hk HD3.out
      refine ⟨?_, ?_, HT1.out.put, ?_, ?_⟩
      · rw [List.map_append]
        exact HA3.out.core
      · rw [keysOf_put, HK1.out, HK6.out]
      · intro y hy
        rcases List.mem_append.1 hy with hy | hy
        · rw [HF1.out] at hy
          refine HZ.out y ?_
          unfold dropF at hy
          split at hy
          · exact List.mem_of_mem_tail hy
          · exact hy
        · rw [List.mem_singleton.1 hy]
          exact ⟨rfl, rfl⟩
      · have h1 : (dropF m fl).length + 1 ≤ 16 * lim m := by
          unfold dropF
          split
          · rename_i h
            cases fl with
            | nil => simp at h; omega
            | cons y fl2 => simp at hle ⊢; omega
          · rename_i h
            omega
        rw [List.length_append, HF1.out]
        simpa using h1
end Go.Proofs.Ybulkakzc
