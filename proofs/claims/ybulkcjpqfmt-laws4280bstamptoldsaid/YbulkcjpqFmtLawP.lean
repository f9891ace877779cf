import Derived.Test.YbulkcjpqFmtLawO
namespace Go.Proofs.YbulkcjpqFmt
open Go.ChangeShapes Go.WideShapes Go.ChangeAt Go.RowKit Go.Deep
set_option linter.unusedVariables false
set_option linter.unusedSimpArgs false

set_option maxHeartbeats 4000000 in
set_option maxRecDepth 20000 in
theorem law_blk10 (v0 v1 v2 v3 v4 v5 v6 v7 v8 v9 v10 v11 v12 v13 v16 v17 v18 v19 v20 v21 v22 v23 v24 v25 v27 v31 v32 v33 v36 v37 v38 v39 v40 v41 v42 v43 v44 v45 v46 v47 v48 v49 v50 v51 v52 v53 v54 v55 v56 v57 v58 v59 v60 v61 v62 v63 v64 v65 v66 v67 v68 v69 v70 v71 v72 v73 v74 v75 v76 v77 v78 v79 v80 v81 v82 v83 v84 v85 v86 v87 v88 v89 v90 v91 v92 v93 v94 v95 v96 v97 v98 v99 v100 v101 v102 v103 v104 v105 v106 v107 v108 v109 v110 v111 v112 v113 v114 v115 v116 v117 v118 v119 v120 v121 v122 v123 v124 v125 v126 v127 v128 v129 v130 v131 v132 v133 v134 v135 v136 v137 v138 v139 v140 v141 v142 v143 v144 v145 v146 v147 v148 v149 v150 v151 v152 v153 v154 v155 v156 v157 v158 v159 v160 v161 v162 v163 v164 v165 v166 v167 v168 v169 v170 v171 v172 v173 v174 v175 v176 v177 v178 v179 v180 v181 v182 v183 v184 v185 v186 v187 v188 v189 v190 v191 v192 v193 v194 v195 v196 v197 v198 v199 v200 v201 v202 v203 v204 v205 v206 v207 v208 v209 v210 v211 v212 v213 v214 v215 v216 v217 v218 v219 v220 v221 v222 v223 v224 v225 v226 v227 v228 v229 v230 v231 v232 v233 v234 v235 v236 v237 v238 v239 v240 v241 v242 v243 v244 v245 v246 v247 v248 v249 v250 v251 v252 v253 v254 v255 v256 v257 v258 v259 v260 v261 v262 v263 v264 v265 v266 v267 v268 v269 v270 v271 v272 v273 v274 v275 v276 v277 v278 v279 v280 v281 v282 v283 v284 v285 v286 v287 v288 v289 v290 v291 v292 v293 v294 v295 v296 v297 v298 v299 v300 v301 v302 v303 v304 v305 v306 v307 v308 v309 v310 v311 v312 v313 v314 v315 v316 v317 v318 v319 v320 v321 v322 v323 v324 v325 v326 v327 v328 v329 v330 v331 v332 v333 : Value) (w W : World) (gk gh gs gpf gpr gsq ge pb sb vb gv cap n m lc : Nat) (E M PF : Nat → Int) (NV CV kcf : Nat → Value) (l2 : Nat) (ep ek : Nat → Nat) (hT : (mkT vb gs gv cap gpf ge pb gpr sb gsq n m M PF NV CV l2 ep ek).Ok) (hL : Laid w W gk gh gs gpf gpr gsq ge pb sb vb gv cap n m lc E M PF NV CV kcf l2 ep ek) (hPF : ∀ i, 0 ≤ PF i ∧ PF i ≤ 255) :
    Code.wp Ybaf.prog (blkIn Ybaf.f3 10) (Exit.then (fun a' W' => ∃ (u12 u35 u36 u37 u38 u39 u40 u41 u220 u221 u222 u223 u224 u225 u226 u227 u228 u229 u230 u231 u232 u233 u234 u235 u236 u237 u238 u239 u240 u241 u242 u243 u244 u245 u246 u247 u248 u249 u250 u251 u252 u253 u254 u255 u256 u257 u258 u259 u260 u261 u262 u263 u264 u265 u266 u267 u268 u269 u270 u271 u272 u273 u274 u275 u276 u277 u278 u279 u280 u281 u282 u283 u284 u285 u286 u287 u288 u289 u290 u291 u292 : Value), Below W.heap.size W W' ∧ a' = ⟨#[v0, v1, v2, v3, v4, v5, v6, v7, v8, v9, v10, v11, u12, v13, .pointer (some ⟨gk, 0, none⟩), .pointer (some ⟨gh, 0, none⟩), v16, v17, v18, v19, v20, v21, v22, v23, v24, v25, .slice (some ⟨gpf, 0, none⟩) n n, v27, .int .i64 (m : Int), .slice (some ⟨gpr, 0, none⟩) m m, .slice (some ⟨gsq, 0, none⟩) m m, v31, v32, v33, .pointer (some ⟨vb, 0, none⟩), u35, u36, u37, u38, u39, u40, u41, v42, v43, v44, v45, v46, v47, v48, v49, v50, v51, v52, v53, v54, v55, v56, v57, v58, v59, v60, v61, v62, v63, v64, v65, v66, v67, v68, v69, v70, v71, v72, v73, v74, v75, v76, v77, v78, v79, v80, v81, v82, v83, v84, v85, v86, v87, v88, v89, v90, v91, v92, v93, v94, v95, v96, v97, v98, v99, v100, v101, v102, v103, v104, v105, v106, v107, v108, v109, v110, v111, v112, v113, v114, v115, v116, v117, v118, v119, v120, v121, v122, v123, v124, v125, v126, v127, v128, v129, v130, v131, v132, v133, v134, v135, v136, v137, v138, v139, v140, v141, v142, v143, v144, v145, v146, v147, v148, v149, v150, v151, v152, v153, v154, v155, v156, v157, v158, v159, v160, v161, v162, v163, v164, v165, v166, v167, v168, v169, v170, v171, v172, v173, v174, v175, v176, v177, v178, v179, v180, v181, v182, v183, v184, v185, v186, v187, v188, v189, v190, v191, v192, v193, v194, v195, v196, v197, v198, v199, v200, v201, v202, v203, v204, v205, v206, v207, v208, v209, v210, v211, v212, v213, v214, v215, v216, v217, v218, v219, u220, u221, u222, u223, u224, u225, u226, u227, u228, u229, u230, u231, u232, u233, u234, u235, u236, u237, u238, u239, u240, u241, u242, u243, u244, u245, u246, u247, u248, u249, u250, u251, u252, u253, u254, u255, u256, u257, u258, u259, u260, u261, u262, u263, u264, u265, u266, u267, u268, u269, u270, u271, u272, u273, u274, u275, u276, u277, u278, u279, u280, u281, u282, u283, u284, u285, u286, u287, u288, u289, u290, u291, u292, v293, v294, v295, v296, v297, v298, v299, v300, v301, v302, v303, v304, v305, v306, v307, v308, v309, v310, v311, v312, v313, v314, v315, v316, v317, v318, v319, v320, v321, v322, v323, v324, v325, v326, v327, v328, v329, v330, v331, v332, v333], []⟩) (fun _ _ _ => False)) ⟨#[v0, v1, v2, v3, v4, v5, v6, v7, v8, v9, v10, v11, v12, v13, .pointer (some ⟨gk, 0, none⟩), .pointer (some ⟨gh, 0, none⟩), v16, v17, v18, v19, v20, v21, v22, v23, v24, v25, .slice (some ⟨gpf, 0, none⟩) n n, v27, .int .i64 (m : Int), .slice (some ⟨gpr, 0, none⟩) m m, .slice (some ⟨gsq, 0, none⟩) m m, v31, v32, v33, .pointer (some ⟨vb, 0, none⟩), .int .i64 0, v36, v37, v38, v39, v40, v41, v42, v43, v44, v45, v46, v47, v48, v49, v50, v51, v52, v53, v54, v55, v56, v57, v58, v59, v60, v61, v62, v63, v64, v65, v66, v67, v68, v69, v70, v71, v72, v73, v74, v75, v76, v77, v78, v79, v80, v81, v82, v83, v84, v85, v86, v87, v88, v89, v90, v91, v92, v93, v94, v95, v96, v97, v98, v99, v100, v101, v102, v103, v104, v105, v106, v107, v108, v109, v110, v111, v112, v113, v114, v115, v116, v117, v118, v119, v120, v121, v122, v123, v124, v125, v126, v127, v128, v129, v130, v131, v132, v133, v134, v135, v136, v137, v138, v139, v140, v141, v142, v143, v144, v145, v146, v147, v148, v149, v150, v151, v152, v153, v154, v155, v156, v157, v158, v159, v160, v161, v162, v163, v164, v165, v166, v167, v168, v169, v170, v171, v172, v173, v174, v175, v176, v177, v178, v179, v180, v181, v182, v183, v184, v185, v186, v187, v188, v189, v190, v191, v192, v193, v194, v195, v196, v197, v198, v199, v200, v201, v202, v203, v204, v205, v206, v207, v208, v209, v210, v211, v212, v213, v214, v215, v216, v217, v218, v219, v220, v221, v222, v223, v224, v225, v226, v227, v228, v229, v230, v231, v232, v233, v234, v235, v236, v237, v238, v239, v240, v241, v242, v243, v244, v245, v246, v247, v248, v249, v250, v251, v252, v253, v254, v255, v256, v257, v258, v259, v260, v261, v262, v263, v264, v265, v266, v267, v268, v269, v270, v271, v272, v273, v274, v275, v276, v277, v278, v279, v280, v281, v282, v283, v284, v285, v286, v287, v288, v289, v290, v291, v292, v293, v294, v295, v296, v297, v298, v299, v300, v301, v302, v303, v304, v305, v306, v307, v308, v309, v310, v311, v312, v313, v314, v315, v316, v317, v318, v319, v320, v321, v322, v323, v324, v325, v326, v327, v328, v329, v330, v331, v332, v333], []⟩ W := by
  conv => arg 2; whnf
  have HT := Hid.intro hT
  have HL := Hid.intro hL
  have HPF := Hid.intro hPF
  have hm : m ≤ 1024 := hT.m1
  clear hT hL hPF
  go_wp2_with fail
  go_loopw [35] (fun vi wr => ∃ i : Nat, i ≤ m ∧ vi = .int .i64 i ∧ Below W.heap.size W wr) (fun vi _ => m - (intOf vi).toNat)
  case atStart => exact ⟨0, by omega, rfl, Below.refl _ _⟩
  case round =>
    obtain ⟨i, hi, rfl, hB⟩ := hrel
    by_cases hlt : i < m
    · go_upto_block 11 with fail
      refine wp_then (law_blk11 _ _ _ _ _ _ _ _ _ _ _ _ _ _ _ _ _ _ _ _ _ _ _ _ _ _ _ _ _ _ _ _ _ _ _ _ _ _ _ _ _ _ _ _ _ _ _ _ _ _ _ _ _ _ _ _ _ _ _ _ _ _ _ _ _ _ _ _ _ _ _ _ _ _ _ _ _ _ _ _ _ _ _ _ _ _ _ _ _ _ _ _ _ _ _ _ _ _ _ _ _ _ _ _ _ _ _ _ _ _ _ _ _ _ _ _ _ _ _ _ _ _ _ _ _ _ _ _ _ _ _ _ _ _ _ _ _ _ _ _ _ _ _ _ _ _ _ _ _ _ _ _ _ _ _ _ _ _ _ _ _ _ _ _ _ _ _ _ _ _ _ _ _ _ _ _ _ _ _ _ _ _ _ _ _ _ _ _ _ _ _ _ _ _ _ _ _ _ _ _ _ _ _ _ _ _ _ _ _ _ _ _ _ _ _ _ _ _ _ _ _ _ _ _ _ _ _ _ _ _ _ _ _ _ _ _ _ _ _ _ _ _ _ _ _ _ _ _ _ _ _ _ _ _ _ _ _ _ _ _ _ _ _ _ _ _ _ _ _ _ _ _ _ _ _ _ _ _ _ _ _ _ _ _ _ _ _ _ _ _ _ _ _ _ _ _ _ _ _ _ _ _ _ _ _ _ _ _ _ _ _ _ _ _ _ _ _ _ _ _ _ _ _ _ _ _ _ w wr gk gh gs gpf gpr gsq ge pb sb vb gv cap n m lc E M PF NV CV kcf l2 ep ek i hlt HT.out (HL.out.mono hB) HPF.out) ?_
      intro a' W' hq
      obtain ⟨u12, hq⟩ := hq
      obtain ⟨u36, hq⟩ := hq
      obtain ⟨u37, hq⟩ := hq
      obtain ⟨u38, hq⟩ := hq
      obtain ⟨u39, hq⟩ := hq
      obtain ⟨u40, hq⟩ := hq
      obtain ⟨u41, hq⟩ := hq
      obtain ⟨u225, hq⟩ := hq
      obtain ⟨u226, hq⟩ := hq
      obtain ⟨u227, hq⟩ := hq
      obtain ⟨u228, hq⟩ := hq
      obtain ⟨u229, hq⟩ := hq
      obtain ⟨u230, hq⟩ := hq
      obtain ⟨u231, hq⟩ := hq
      obtain ⟨u232, hq⟩ := hq
      obtain ⟨u233, hq⟩ := hq
      obtain ⟨u234, hq⟩ := hq
      obtain ⟨u235, hq⟩ := hq
      obtain ⟨u236, hq⟩ := hq
      obtain ⟨u237, hq⟩ := hq
      obtain ⟨u238, hq⟩ := hq
      obtain ⟨u239, hq⟩ := hq
      obtain ⟨u240, hq⟩ := hq
      obtain ⟨u241, hq⟩ := hq
      obtain ⟨u242, hq⟩ := hq
      obtain ⟨u243, hq⟩ := hq
      obtain ⟨u244, hq⟩ := hq
      obtain ⟨u245, hq⟩ := hq
      obtain ⟨u246, hq⟩ := hq
      obtain ⟨u247, hq⟩ := hq
      obtain ⟨u248, hq⟩ := hq
      obtain ⟨u249, hq⟩ := hq
      obtain ⟨u250, hq⟩ := hq
      obtain ⟨u251, hq⟩ := hq
      obtain ⟨u252, hq⟩ := hq
      obtain ⟨u253, hq⟩ := hq
      obtain ⟨u254, hq⟩ := hq
      obtain ⟨u255, hq⟩ := hq
      obtain ⟨u256, hq⟩ := hq
      obtain ⟨u257, hq⟩ := hq
      obtain ⟨u258, hq⟩ := hq
      obtain ⟨u259, hq⟩ := hq
      obtain ⟨u260, hq⟩ := hq
      obtain ⟨u261, hq⟩ := hq
      obtain ⟨u262, hq⟩ := hq
      obtain ⟨u263, hq⟩ := hq
      obtain ⟨u264, hq⟩ := hq
      obtain ⟨u265, hq⟩ := hq
      obtain ⟨u266, hq⟩ := hq
      obtain ⟨u267, hq⟩ := hq
      obtain ⟨u268, hq⟩ := hq
      obtain ⟨u269, hq⟩ := hq
      obtain ⟨u270, hq⟩ := hq
      obtain ⟨u271, hq⟩ := hq
      obtain ⟨u272, hq⟩ := hq
      obtain ⟨u273, hq⟩ := hq
      obtain ⟨u274, hq⟩ := hq
      obtain ⟨u275, hq⟩ := hq
      obtain ⟨u276, hq⟩ := hq
      obtain ⟨u277, hq⟩ := hq
      obtain ⟨u278, hq⟩ := hq
      obtain ⟨u279, hq⟩ := hq
      obtain ⟨u280, hq⟩ := hq
      obtain ⟨u281, hq⟩ := hq
      obtain ⟨u282, hq⟩ := hq
      obtain ⟨u283, hq⟩ := hq
      obtain ⟨u284, hq⟩ := hq
      obtain ⟨u285, hq⟩ := hq
      obtain ⟨u286, hq⟩ := hq
      obtain ⟨u287, hq⟩ := hq
      obtain ⟨u288, hq⟩ := hq
      obtain ⟨u289, hq⟩ := hq
      obtain ⟨u290, hq⟩ := hq
      obtain ⟨u291, hq⟩ := hq
      obtain ⟨u292, hq⟩ := hq
      obtain ⟨hB2, rfl⟩ := hq
      have hB3 := hB.trans (hB2.mono hB.size)
      clear hB2 hB
      go_wp2
      go_roundw
      case rel => exact ⟨i + 1, by omega, by go_num, hB3⟩
      case measure => simp [intOf]; omega
    · obtain rfl : i = m := by omega
      go_wp2
      exact ⟨_, _, _, _, _, _, _, _, _, _, _, _, _, _, _, _, _, _, _, _, _, _, _, _, _, _, _, _, _, _, _, _, _, _, _, _, _, _, _, _, _, _, _, _, _, _, _, _, _, _, _, _, _, _, _, _, _, _, _, _, _, _, _, _, _, _, _, _, _, _, _, _, _, _, _, _, _, _, _, _, _, hB, rfl⟩

end Go.Proofs.YbulkcjpqFmt
