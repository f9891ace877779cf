import Derived.Test.YbulkcjpqFmtLawM
import Derived.Test.YbulkcjpqFmtLawL
import Derived.Test.YbulkcjpqFmtLawO
namespace Go.Proofs.YbulkcjpqFmt
open Go.ChangeShapes Go.WideShapes Go.ChangeAt Go.RowKit Go.Deep
set_option linter.unusedVariables false
set_option linter.unusedSimpArgs false

set_option maxHeartbeats 4000000 in
set_option maxRecDepth 20000 in
theorem law_blk18 (v0 v1 v2 v3 v4 v5 v6 v7 v8 v9 v10 v11 v12 v13 v16 v17 v18 v19 v20 v21 v22 v23 v24 v25 v26 v27 v28 v29 v30 v31 v32 v33 v35 v36 v37 v38 v39 v40 v41 v45 v46 v47 v48 v49 v50 v51 v52 v53 v54 v55 v56 v57 v58 v59 v60 v61 v62 v63 v64 v65 v66 v67 v68 v69 v70 v71 v72 v73 v74 v75 v76 v77 v78 v79 v80 v81 v82 v83 v84 v85 v86 v87 v88 v89 v90 v91 v92 v93 v94 v95 v96 v97 v98 v99 v100 v101 v102 v103 v104 v105 v106 v107 v108 v109 v110 v111 v112 v113 v114 v115 v116 v117 v118 v119 v120 v121 v122 v123 v124 v125 v126 v127 v128 v129 v130 v131 v132 v133 v134 v135 v136 v137 v138 v139 v140 v141 v142 v143 v144 v145 v146 v147 v148 v149 v150 v151 v152 v153 v154 v155 v156 v157 v158 v159 v160 v161 v162 v163 v164 v165 v166 v167 v168 v169 v170 v171 v172 v173 v174 v175 v176 v177 v178 v179 v180 v181 v182 v183 v184 v185 v186 v187 v188 v189 v190 v191 v192 v193 v194 v195 v196 v197 v198 v199 v200 v201 v202 v203 v204 v205 v206 v207 v208 v209 v210 v211 v212 v213 v214 v215 v216 v217 v218 v219 v220 v221 v222 v223 v224 v225 v226 v227 v228 v229 v230 v231 v232 v233 v234 v235 v236 v237 v238 v239 v240 v241 v242 v243 v244 v245 v246 v247 v248 v249 v250 v251 v252 v253 v254 v255 v256 v257 v258 v259 v260 v261 v262 v263 v264 v265 v266 v267 v268 v269 v270 v271 v272 v273 v274 v275 v276 v277 v278 v279 v280 v281 v282 v283 v284 v285 v286 v287 v288 v289 v290 v291 v292 v293 v294 v295 v296 v297 v298 v299 v300 v301 v302 v303 v304 v305 v306 v307 v308 v309 v310 v311 v312 v313 v314 v315 v316 v317 v318 v319 v320 v321 v322 v323 v324 v325 v326 v327 v328 v329 v330 v331 v332 v333 : Value) (w W : World) (gk gh gs gpf gpr gsq ge pb sb vb gv cap n m lc : Nat) (E M PF : Nat → Int) (NV CV kcf : Nat → Value) (l2 : Nat) (ep ek : Nat → Nat) (p : Nat) (hn : n ≤ 3) (hp : p < n) (hL : Laid w W gk gh gs gpf gpr gsq ge pb sb vb gv cap n m lc E M PF NV CV kcf l2 ep ek) :
    Code.wp Ybaf.prog (blkIn Ybaf.f3 18) (Exit.then (fun a' W' => ∃ (u12 u44 u45 u298 u299 u300 u301 u302 u303 u304 u305 u306 u307 u308 u309 u310 u311 u312 u313 u314 u315 u316 u317 u318 u319 u320 u321 u322 u323 u324 u325 u326 u327 u328 u329 u330 u331 u332 u333 : Value), Below W.heap.size W W' ∧ a' = ⟨#[v0, v1, v2, v3, v4, v5, v6, v7, v8, v9, v10, v11, u12, v13, .pointer (some ⟨gk, 0, none⟩), .pointer (some ⟨gh, 0, none⟩), v16, v17, v18, v19, v20, v21, v22, v23, v24, v25, v26, v27, v28, v29, v30, v31, v32, v33, .pointer (some ⟨vb, 0, none⟩), v35, v36, v37, v38, v39, v40, v41, .int .i64 ((kl M (p * 8 + 8)).length : Int), .int .i64 (p : Int), u44, u45, v46, v47, v48, v49, v50, v51, v52, v53, v54, v55, v56, v57, v58, v59, v60, v61, v62, v63, v64, v65, v66, v67, v68, v69, v70, v71, v72, v73, v74, v75, v76, v77, v78, v79, v80, v81, v82, v83, v84, v85, v86, v87, v88, v89, v90, v91, v92, v93, v94, v95, v96, v97, v98, v99, v100, v101, v102, v103, v104, v105, v106, v107, v108, v109, v110, v111, v112, v113, v114, v115, v116, v117, v118, v119, v120, v121, v122, v123, v124, v125, v126, v127, v128, v129, v130, v131, v132, v133, v134, v135, v136, v137, v138, v139, v140, v141, v142, v143, v144, v145, v146, v147, v148, v149, v150, v151, v152, v153, v154, v155, v156, v157, v158, v159, v160, v161, v162, v163, v164, v165, v166, v167, v168, v169, v170, v171, v172, v173, v174, v175, v176, v177, v178, v179, v180, v181, v182, v183, v184, v185, v186, v187, v188, v189, v190, v191, v192, v193, v194, v195, v196, v197, v198, v199, v200, v201, v202, v203, v204, v205, v206, v207, v208, v209, v210, v211, v212, v213, v214, v215, v216, v217, v218, v219, v220, v221, v222, v223, v224, v225, v226, v227, v228, v229, v230, v231, v232, v233, v234, v235, v236, v237, v238, v239, v240, v241, v242, v243, v244, v245, v246, v247, v248, v249, v250, v251, v252, v253, v254, v255, v256, v257, v258, v259, v260, v261, v262, v263, v264, v265, v266, v267, v268, v269, v270, v271, v272, v273, v274, v275, v276, v277, v278, v279, v280, v281, v282, v283, v284, v285, v286, v287, v288, v289, v290, v291, v292, v293, v294, v295, v296, v297, u298, u299, u300, u301, u302, u303, u304, u305, u306, u307, u308, u309, u310, u311, u312, u313, u314, u315, u316, u317, u318, u319, u320, u321, u322, u323, u324, u325, u326, u327, u328, u329, u330, u331, u332, u333], []⟩) (fun _ _ _ => False)) ⟨#[v0, v1, v2, v3, v4, v5, v6, v7, v8, v9, v10, v11, v12, v13, .pointer (some ⟨gk, 0, none⟩), .pointer (some ⟨gh, 0, none⟩), v16, v17, v18, v19, v20, v21, v22, v23, v24, v25, v26, v27, v28, v29, v30, v31, v32, v33, .pointer (some ⟨vb, 0, none⟩), v35, v36, v37, v38, v39, v40, v41, .int .i64 ((kl M (p * 8)).length : Int), .int .i64 (p : Int), .int .i64 0, v45, v46, v47, v48, v49, v50, v51, v52, v53, v54, v55, v56, v57, v58, v59, v60, v61, v62, v63, v64, v65, v66, v67, v68, v69, v70, v71, v72, v73, v74, v75, v76, v77, v78, v79, v80, v81, v82, v83, v84, v85, v86, v87, v88, v89, v90, v91, v92, v93, v94, v95, v96, v97, v98, v99, v100, v101, v102, v103, v104, v105, v106, v107, v108, v109, v110, v111, v112, v113, v114, v115, v116, v117, v118, v119, v120, v121, v122, v123, v124, v125, v126, v127, v128, v129, v130, v131, v132, v133, v134, v135, v136, v137, v138, v139, v140, v141, v142, v143, v144, v145, v146, v147, v148, v149, v150, v151, v152, v153, v154, v155, v156, v157, v158, v159, v160, v161, v162, v163, v164, v165, v166, v167, v168, v169, v170, v171, v172, v173, v174, v175, v176, v177, v178, v179, v180, v181, v182, v183, v184, v185, v186, v187, v188, v189, v190, v191, v192, v193, v194, v195, v196, v197, v198, v199, v200, v201, v202, v203, v204, v205, v206, v207, v208, v209, v210, v211, v212, v213, v214, v215, v216, v217, v218, v219, v220, v221, v222, v223, v224, v225, v226, v227, v228, v229, v230, v231, v232, v233, v234, v235, v236, v237, v238, v239, v240, v241, v242, v243, v244, v245, v246, v247, v248, v249, v250, v251, v252, v253, v254, v255, v256, v257, v258, v259, v260, v261, v262, v263, v264, v265, v266, v267, v268, v269, v270, v271, v272, v273, v274, v275, v276, v277, v278, v279, v280, v281, v282, v283, v284, v285, v286, v287, v288, v289, v290, v291, v292, v293, v294, v295, v296, v297, v298, v299, v300, v301, v302, v303, v304, v305, v306, v307, v308, v309, v310, v311, v312, v313, v314, v315, v316, v317, v318, v319, v320, v321, v322, v323, v324, v325, v326, v327, v328, v329, v330, v331, v332, v333], []⟩ W := by
  conv => arg 2; whnf
  have HL := Hid.intro hL
  clear hL
  go_wp2_with fail
  go_loopw [42, 44] (fun vj vpl wr => ∃ pl : Nat, pl ≤ 8 ∧ vpl = .int .i64 pl ∧ vj = .int .i64 ((kl M (p * 8 + pl)).length : Int) ∧ Below W.heap.size W wr) (fun _ vpl _ => 8 - (intOf vpl).toNat)
  case atStart => exact ⟨0, by omega, rfl, rfl, Below.refl _ _⟩
  case round =>
    obtain ⟨pl, hpl, rfl, rfl, hB⟩ := hrel
    by_cases hlt : pl < 8
    · have HL1 : Hid (Laid w wr gk gh gs gpf gpr gsq ge pb sb vb gv cap n m lc E M PF NV CV kcf l2 ep ek) := HL.out.mono hB
      have hhc := HL1.out.hH.cell (i := p * 8 + pl) (by omega)
      rw [decide_eq_true (show p * 8 + pl < n * 8 by omega), Bool.true_and] at hhc
      have hkl := kl_len M (p * 8 + pl)
      have hpi : (p : Int) < 3 := by omega
      by_cases hh : HH M (p * 8 + pl) = true
      · rw [hh] at hhc
        have hx : p * 8 + pl < n * 8 := by omega
        have hkn : (kl M (p * 8 + pl + 1)).length = (kl M (p * 8 + pl)).length + 1 := by rw [kl_yes hh]; simp
        have hjl := kl_lt M hx hh
        have hlen := kl_len M (n * 8)
        have hfl := flat_get (NV := NV) (CV := CV) (kl_get M hx hh)
        obtain ⟨k, an, cn, ac, cc, e1, e2, _, _, hst⟩ := (HL1.out.hk _ (kl_mem.2 ⟨hx, hh⟩)).form
        have h0 : wr.cell? ⟨gv, (kl M (p * 8 + pl)).length * 3 + 1, none⟩ = some (.slice an k cn) := by rw [HL1.out.hV.cellAt _ (by omega), hfl.2.1, e1]
        have h1 : wr.cell? ⟨gv, (kl M (p * 8 + pl)).length * 3 + 2, none⟩ = some (.slice ac k cc) := by rw [HL1.out.hV.cellAt _ (by omega), hfl.2.2, e2]
        rw [e1, e2] at hst
        have hkc : ∀ q, q < 3 → wr.cell? ⟨gk, p * 24 + pl * 3 + q, none⟩ = some (.int .u64 (CC lc E (p * 8 + pl) q)) := fun q hq => by
          have h1 := HL1.out.hK.cell (i := p * 24 + pl * 3 + q) (by omega)
          have h2 := HL1.out.hKc (p * 8 + pl) q (by omega) hh hq
          rw [show (p * 8 + pl) * 3 + q = p * 24 + pl * 3 + q by omega] at h2
          rw [h1, h2]
        have H0 := Hid.intro h0
        have H1 := Hid.intro h1
        have HST := Hid.intro hst
        have HKC := Hid.intro hkc
        have HJL := Hid.intro hjl
        have HKN := Hid.intro hkn
        clear h0 h1 hst hkc hfl e1 e2 hjl hkn
        go_upto_block 20 with fail
        refine wp_then (law_blk20 _ _ _ _ _ _ _ _ _ _ _ _ _ _ _ _ _ _ _ _ _ _ _ _ _ _ _ _ _ _ _ _ _ _ _ _ _ _ _ _ _ _ _ _ _ _ _ _ _ _ _ _ _ _ _ _ _ _ _ _ _ _ _ _ _ _ _ _ _ _ _ _ _ _ _ _ _ _ _ _ _ _ _ _ _ _ _ _ _ _ _ _ _ _ _ _ _ _ _ _ _ _ _ _ _ _ _ _ _ _ _ _ _ _ _ _ _ _ _ _ _ _ _ _ _ _ _ _ _ _ _ _ _ _ _ _ _ _ _ _ _ _ _ _ _ _ _ _ _ _ _ _ _ _ _ _ _ _ _ _ _ _ _ _ _ _ _ _ _ _ _ _ _ _ _ _ _ _ _ _ _ _ _ _ _ _ _ _ _ _ _ _ _ _ _ _ _ _ _ _ _ _ _ _ _ _ _ _ _ _ _ _ _ _ _ _ _ _ _ _ _ _ _ _ _ _ _ _ _ _ _ _ _ _ _ _ _ _ _ _ _ _ _ _ _ _ _ _ _ _ _ _ _ _ _ _ _ _ _ _ _ _ _ _ _ _ _ _ _ _ _ _ _ _ _ _ _ _ _ _ _ _ _ _ _ _ _ _ _ _ _ _ _ _ _ _ _ _ _ _ _ _ _ _ _ _ _ _ _ _ _ _ _ _ _ _ _ _ _ _ _ _ _ _ _ _ _ _ wr gk vb gv (kl M (n * 8)).length cap (kl M (p * 8 + pl)).length p pl k cn cc an ac (CC lc E (p * 8 + pl)) (by omega) hlt HJL.out (by omega) HKC.out HL1.out.In.v1 H0.out H1.out HST.out) ?_
        intro a' W' hq
        obtain ⟨u12, hq⟩ := hq
        obtain ⟨u45, hq⟩ := hq
        obtain ⟨u308, hq⟩ := hq
        obtain ⟨u309, hq⟩ := hq
        obtain ⟨u310, hq⟩ := hq
        obtain ⟨u311, hq⟩ := hq
        obtain ⟨u312, hq⟩ := hq
        obtain ⟨u313, hq⟩ := hq
        obtain ⟨u314, hq⟩ := hq
        obtain ⟨u315, hq⟩ := hq
        obtain ⟨u316, hq⟩ := hq
        obtain ⟨u317, hq⟩ := hq
        obtain ⟨u318, hq⟩ := hq
        obtain ⟨u319, hq⟩ := hq
        obtain ⟨u320, hq⟩ := hq
        obtain ⟨u321, hq⟩ := hq
        obtain ⟨u322, hq⟩ := hq
        obtain ⟨u323, hq⟩ := hq
        obtain ⟨u324, hq⟩ := hq
        obtain ⟨u325, hq⟩ := hq
        obtain ⟨u326, hq⟩ := hq
        obtain ⟨u327, hq⟩ := hq
        obtain ⟨u328, hq⟩ := hq
        obtain ⟨u329, hq⟩ := hq
        obtain ⟨u330, hq⟩ := hq
        obtain ⟨u331, hq⟩ := hq
        obtain ⟨hB2, rfl⟩ := hq
        have hB3 := hB.trans (hB2.mono hB.size)
        clear hB2 hB hhc
        have hkn2 : ((kl M (p * 8 + (pl + 1))).length : Int) = ((kl M (p * 8 + pl)).length : Int) + 1 := by have := HKN.out; rw [← Nat.add_assoc]; omega
        have HKN2 := Hid.intro hkn2
        clear hkn2
        generalize (kl M (p * 8 + pl)).length = L5 at hkl HKN2 ⊢
        go_wp2
        go_roundw
        case rel => exact ⟨pl + 1, by omega, by go_num, by rw [HKN2.out], hB3⟩
        case measure => simp [intOf]; omega
      · have hh' : HH M (p * 8 + pl) = false := by simpa using hh
        rw [hh'] at hhc
        have hkn : (kl M (p * 8 + (pl + 1))).length = (kl M (p * 8 + pl)).length := by rw [← Nat.add_assoc, kl_no hh']
        have HKN := Hid.intro hkn
        clear hkn
        go_wp2
        go_roundw
        case rel => exact ⟨pl + 1, by omega, by go_num, by rw [HKN.out], hB⟩
        case measure => simp [intOf]; omega
    · obtain rfl : pl = 8 := by omega
      go_wp2
      exact ⟨_, _, _, _, _, _, _, _, _, _, _, _, _, _, _, _, _, _, _, _, _, _, _, _, _, _, _, _, _, _, _, _, _, _, _, _, _, _, _, hB, rfl⟩

set_option maxHeartbeats 4000000 in
set_option maxRecDepth 20000 in
theorem law_blk16 (v0 v1 v2 v3 v4 v5 v6 v7 v8 v9 v10 v11 v12 v16 v17 v18 v19 v20 v21 v22 v23 v24 v25 v26 v27 v28 v29 v30 v31 v32 v33 v35 v36 v37 v38 v39 v40 v41 v44 v45 v46 v47 v48 v49 v50 v51 v52 v53 v54 v55 v56 v57 v58 v59 v60 v61 v62 v63 v64 v65 v66 v67 v68 v69 v70 v71 v72 v73 v74 v75 v76 v77 v78 v79 v80 v81 v82 v83 v84 v85 v86 v87 v88 v89 v90 v91 v92 v93 v94 v95 v96 v97 v98 v99 v100 v101 v102 v103 v104 v105 v106 v107 v108 v109 v110 v111 v112 v113 v114 v115 v116 v117 v118 v119 v120 v121 v122 v123 v124 v125 v126 v127 v128 v129 v130 v131 v132 v133 v134 v135 v136 v137 v138 v139 v140 v141 v142 v143 v144 v145 v146 v147 v148 v149 v150 v151 v152 v153 v154 v155 v156 v157 v158 v159 v160 v161 v162 v163 v164 v165 v166 v167 v168 v169 v170 v171 v172 v173 v174 v175 v176 v177 v178 v179 v180 v181 v182 v183 v184 v185 v186 v187 v188 v189 v190 v191 v192 v193 v194 v195 v196 v197 v198 v199 v200 v201 v202 v203 v204 v205 v206 v207 v208 v209 v210 v211 v212 v213 v214 v215 v216 v217 v218 v219 v220 v221 v222 v223 v224 v225 v226 v227 v228 v229 v230 v231 v232 v233 v234 v235 v236 v237 v238 v239 v240 v241 v242 v243 v244 v245 v246 v247 v248 v249 v250 v251 v252 v253 v254 v255 v256 v257 v258 v259 v260 v261 v262 v263 v264 v265 v266 v267 v268 v269 v270 v271 v272 v273 v274 v275 v276 v277 v278 v279 v280 v281 v282 v283 v284 v285 v286 v287 v288 v289 v290 v291 v292 v293 v294 v295 v296 v297 v298 v299 v300 v301 v302 v303 v304 v305 v306 v307 v308 v309 v310 v311 v312 v313 v314 v315 v316 v317 v318 v319 v320 v321 v322 v323 v324 v325 v326 v327 v328 v329 v330 v331 v332 v333 : Value) (w W : World) (gk gh gs gpf gpr gsq ge pb sb vb gv cap n m lc : Nat) (E M PF : Nat → Int) (NV CV kcf : Nat → Value) (l2 : Nat) (ep ek : Nat → Nat) (hn : n ≤ 3) (hL : Laid w W gk gh gs gpf gpr gsq ge pb sb vb gv cap n m lc E M PF NV CV kcf l2 ep ek) :
    Code.wp Ybaf.prog (blkIn Ybaf.f3 16) (Exit.then (fun a' W' => ∃ (u12 u42 u43 u44 u45 u293 u294 u295 u296 u297 u298 u299 u300 u301 u302 u303 u304 u305 u306 u307 u308 u309 u310 u311 u312 u313 u314 u315 u316 u317 u318 u319 u320 u321 u322 u323 u324 u325 u326 u327 u328 u329 u330 u331 u332 u333 : Value), Below W.heap.size W W' ∧ a' = ⟨#[v0, v1, v2, v3, v4, v5, v6, v7, v8, v9, v10, v11, u12, .int .i64 (n : Int), .pointer (some ⟨gk, 0, none⟩), .pointer (some ⟨gh, 0, none⟩), v16, v17, v18, v19, v20, v21, v22, v23, v24, v25, v26, v27, v28, v29, v30, v31, v32, v33, .pointer (some ⟨vb, 0, none⟩), v35, v36, v37, v38, v39, v40, v41, u42, u43, u44, u45, v46, v47, v48, v49, v50, v51, v52, v53, v54, v55, v56, v57, v58, v59, v60, v61, v62, v63, v64, v65, v66, v67, v68, v69, v70, v71, v72, v73, v74, v75, v76, v77, v78, v79, v80, v81, v82, v83, v84, v85, v86, v87, v88, v89, v90, v91, v92, v93, v94, v95, v96, v97, v98, v99, v100, v101, v102, v103, v104, v105, v106, v107, v108, v109, v110, v111, v112, v113, v114, v115, v116, v117, v118, v119, v120, v121, v122, v123, v124, v125, v126, v127, v128, v129, v130, v131, v132, v133, v134, v135, v136, v137, v138, v139, v140, v141, v142, v143, v144, v145, v146, v147, v148, v149, v150, v151, v152, v153, v154, v155, v156, v157, v158, v159, v160, v161, v162, v163, v164, v165, v166, v167, v168, v169, v170, v171, v172, v173, v174, v175, v176, v177, v178, v179, v180, v181, v182, v183, v184, v185, v186, v187, v188, v189, v190, v191, v192, v193, v194, v195, v196, v197, v198, v199, v200, v201, v202, v203, v204, v205, v206, v207, v208, v209, v210, v211, v212, v213, v214, v215, v216, v217, v218, v219, v220, v221, v222, v223, v224, v225, v226, v227, v228, v229, v230, v231, v232, v233, v234, v235, v236, v237, v238, v239, v240, v241, v242, v243, v244, v245, v246, v247, v248, v249, v250, v251, v252, v253, v254, v255, v256, v257, v258, v259, v260, v261, v262, v263, v264, v265, v266, v267, v268, v269, v270, v271, v272, v273, v274, v275, v276, v277, v278, v279, v280, v281, v282, v283, v284, v285, v286, v287, v288, v289, v290, v291, v292, u293, u294, u295, u296, u297, u298, u299, u300, u301, u302, u303, u304, u305, u306, u307, u308, u309, u310, u311, u312, u313, u314, u315, u316, u317, u318, u319, u320, u321, u322, u323, u324, u325, u326, u327, u328, u329, u330, u331, u332, u333], []⟩) (fun _ _ _ => False)) ⟨#[v0, v1, v2, v3, v4, v5, v6, v7, v8, v9, v10, v11, v12, .int .i64 (n : Int), .pointer (some ⟨gk, 0, none⟩), .pointer (some ⟨gh, 0, none⟩), v16, v17, v18, v19, v20, v21, v22, v23, v24, v25, v26, v27, v28, v29, v30, v31, v32, v33, .pointer (some ⟨vb, 0, none⟩), v35, v36, v37, v38, v39, v40, v41, .int .i64 0, .int .i64 0, v44, v45, v46, v47, v48, v49, v50, v51, v52, v53, v54, v55, v56, v57, v58, v59, v60, v61, v62, v63, v64, v65, v66, v67, v68, v69, v70, v71, v72, v73, v74, v75, v76, v77, v78, v79, v80, v81, v82, v83, v84, v85, v86, v87, v88, v89, v90, v91, v92, v93, v94, v95, v96, v97, v98, v99, v100, v101, v102, v103, v104, v105, v106, v107, v108, v109, v110, v111, v112, v113, v114, v115, v116, v117, v118, v119, v120, v121, v122, v123, v124, v125, v126, v127, v128, v129, v130, v131, v132, v133, v134, v135, v136, v137, v138, v139, v140, v141, v142, v143, v144, v145, v146, v147, v148, v149, v150, v151, v152, v153, v154, v155, v156, v157, v158, v159, v160, v161, v162, v163, v164, v165, v166, v167, v168, v169, v170, v171, v172, v173, v174, v175, v176, v177, v178, v179, v180, v181, v182, v183, v184, v185, v186, v187, v188, v189, v190, v191, v192, v193, v194, v195, v196, v197, v198, v199, v200, v201, v202, v203, v204, v205, v206, v207, v208, v209, v210, v211, v212, v213, v214, v215, v216, v217, v218, v219, v220, v221, v222, v223, v224, v225, v226, v227, v228, v229, v230, v231, v232, v233, v234, v235, v236, v237, v238, v239, v240, v241, v242, v243, v244, v245, v246, v247, v248, v249, v250, v251, v252, v253, v254, v255, v256, v257, v258, v259, v260, v261, v262, v263, v264, v265, v266, v267, v268, v269, v270, v271, v272, v273, v274, v275, v276, v277, v278, v279, v280, v281, v282, v283, v284, v285, v286, v287, v288, v289, v290, v291, v292, v293, v294, v295, v296, v297, v298, v299, v300, v301, v302, v303, v304, v305, v306, v307, v308, v309, v310, v311, v312, v313, v314, v315, v316, v317, v318, v319, v320, v321, v322, v323, v324, v325, v326, v327, v328, v329, v330, v331, v332, v333], []⟩ W := by
  conv => arg 2; whnf
  have HL := Hid.intro hL
  clear hL
  go_wp2_with fail
  go_loopw [42, 43] (fun vj vp wr => ∃ p : Nat, p ≤ n ∧ vp = .int .i64 p ∧ vj = .int .i64 ((kl M (p * 8)).length : Int) ∧ Below W.heap.size W wr) (fun _ vp _ => n - (intOf vp).toNat)
  case atStart => exact ⟨0, by omega, rfl, rfl, Below.refl _ _⟩
  case round =>
    obtain ⟨p, hp, rfl, rfl, hB⟩ := hrel
    by_cases hlt : p < n
    · go_upto_block 18 with fail
      refine wp_then (law_blk18 _ _ _ _ _ _ _ _ _ _ _ _ _ _ _ _ _ _ _ _ _ _ _ _ _ _ _ _ _ _ _ _ _ _ _ _ _ _ _ _ _ _ _ _ _ _ _ _ _ _ _ _ _ _ _ _ _ _ _ _ _ _ _ _ _ _ _ _ _ _ _ _ _ _ _ _ _ _ _ _ _ _ _ _ _ _ _ _ _ _ _ _ _ _ _ _ _ _ _ _ _ _ _ _ _ _ _ _ _ _ _ _ _ _ _ _ _ _ _ _ _ _ _ _ _ _ _ _ _ _ _ _ _ _ _ _ _ _ _ _ _ _ _ _ _ _ _ _ _ _ _ _ _ _ _ _ _ _ _ _ _ _ _ _ _ _ _ _ _ _ _ _ _ _ _ _ _ _ _ _ _ _ _ _ _ _ _ _ _ _ _ _ _ _ _ _ _ _ _ _ _ _ _ _ _ _ _ _ _ _ _ _ _ _ _ _ _ _ _ _ _ _ _ _ _ _ _ _ _ _ _ _ _ _ _ _ _ _ _ _ _ _ _ _ _ _ _ _ _ _ _ _ _ _ _ _ _ _ _ _ _ _ _ _ _ _ _ _ _ _ _ _ _ _ _ _ _ _ _ _ _ _ _ _ _ _ _ _ _ _ _ _ _ _ _ _ _ _ _ _ _ _ _ _ _ _ _ _ _ _ _ _ _ _ _ _ _ _ _ _ _ _ _ _ _ _ _ _ w wr gk gh gs gpf gpr gsq ge pb sb vb gv cap n m lc E M PF NV CV kcf l2 ep ek p hn hlt (HL.out.mono hB)) ?_
      intro a' W' hq
      obtain ⟨u12, hq⟩ := hq
      obtain ⟨u44, hq⟩ := hq
      obtain ⟨u45, hq⟩ := hq
      obtain ⟨u298, hq⟩ := hq
      obtain ⟨u299, hq⟩ := hq
      obtain ⟨u300, hq⟩ := hq
      obtain ⟨u301, hq⟩ := hq
      obtain ⟨u302, hq⟩ := hq
      obtain ⟨u303, hq⟩ := hq
      obtain ⟨u304, hq⟩ := hq
      obtain ⟨u305, hq⟩ := hq
      obtain ⟨u306, hq⟩ := hq
      obtain ⟨u307, hq⟩ := hq
      obtain ⟨u308, hq⟩ := hq
      obtain ⟨u309, hq⟩ := hq
      obtain ⟨u310, hq⟩ := hq
      obtain ⟨u311, hq⟩ := hq
      obtain ⟨u312, hq⟩ := hq
      obtain ⟨u313, hq⟩ := hq
      obtain ⟨u314, hq⟩ := hq
      obtain ⟨u315, hq⟩ := hq
      obtain ⟨u316, hq⟩ := hq
      obtain ⟨u317, hq⟩ := hq
      obtain ⟨u318, hq⟩ := hq
      obtain ⟨u319, hq⟩ := hq
      obtain ⟨u320, hq⟩ := hq
      obtain ⟨u321, hq⟩ := hq
      obtain ⟨u322, hq⟩ := hq
      obtain ⟨u323, hq⟩ := hq
      obtain ⟨u324, hq⟩ := hq
      obtain ⟨u325, hq⟩ := hq
      obtain ⟨u326, hq⟩ := hq
      obtain ⟨u327, hq⟩ := hq
      obtain ⟨u328, hq⟩ := hq
      obtain ⟨u329, hq⟩ := hq
      obtain ⟨u330, hq⟩ := hq
      obtain ⟨u331, hq⟩ := hq
      obtain ⟨u332, hq⟩ := hq
      obtain ⟨u333, hq⟩ := hq
      obtain ⟨hB2, rfl⟩ := hq
      have hB3 := hB.trans (hB2.mono hB.size)
      clear hB2 hB
      have hkl := kl_len M (p * 8 + 8)
      have HE : Hid ((kl M ((p + 1) * 8)).length = (kl M (p * 8 + 8)).length) := by rw [show (p + 1) * 8 = p * 8 + 8 by omega]; rfl
      go_wp2
      go_roundw
      case rel => exact ⟨p + 1, by omega, by go_num, by rw [HE.out], hB3⟩
      case measure => simp [intOf]; omega
    · obtain rfl : p = n := by omega
      go_wp2
      exact ⟨_, _, _, _, _, _, _, _, _, _, _, _, _, _, _, _, _, _, _, _, _, _, _, _, _, _, _, _, _, _, _, _, _, _, _, _, _, _, _, _, _, _, _, _, _, _, hB, rfl⟩

end Go.Proofs.YbulkcjpqFmt
