import Derived.Test.YbulkcjpqFmtLawC
namespace Go.Proofs.YbulkcjpqFmt
open Go.ChangeShapes Go.WideShapes Go.ChangeAt Go.RowKit Go.Deep
set_option linter.unusedVariables false
set_option linter.unusedSimpArgs false

set_option maxHeartbeats 4000000 in
set_option maxRecDepth 20000 in
theorem law_blk6 (v0 v1 v2 v3 v4 v5 v6 v7 v8 v9 v11 v12 v14 v15 v16 v17 v18 v19 v20 v21 v22 v23 v24 v25 v28 v29 v30 v31 v32 v33 v34 v35 v36 v37 v38 v39 v40 v41 v42 v43 v44 v45 v46 v47 v48 v49 v50 v51 v52 v53 v54 v55 v56 v57 v58 v59 v60 v61 v62 v63 v64 v65 v66 v67 v68 v69 v70 v71 v72 v73 v74 v75 v76 v77 v78 v79 v80 v81 v82 v83 v84 v85 v86 v87 v88 v89 v90 v91 v92 v93 v94 v95 v96 v97 v98 v99 v100 v101 v102 v103 v104 v105 v106 v107 v108 v109 v110 v111 v112 v113 v114 v115 v116 v117 v118 v119 v120 v121 v122 v123 v124 v125 v126 v127 v128 v129 v130 v131 v132 v133 v134 v135 v136 v137 v138 v139 v140 v141 v142 v143 v144 v145 v146 v147 v148 v149 v150 v151 v152 v153 v154 v155 v156 v157 v158 v159 v160 v161 v162 v163 v164 v165 v166 v167 v168 v169 v170 v171 v172 v173 v174 v175 v176 v177 v178 v179 v180 v181 v182 v183 v184 v185 v186 v187 v188 v189 v190 v191 v192 v193 v194 v195 v196 v197 v198 v199 v200 v201 v202 v203 v204 v205 v206 v207 v208 v209 v210 v211 v212 v213 v214 v215 v216 v217 v218 v219 v220 v221 v222 v223 v224 v225 v226 v227 v228 v229 v230 v231 v232 v233 v234 v235 v236 v237 v238 v239 v240 v241 v242 v243 v244 v245 v246 v247 v248 v249 v250 v251 v252 v253 v254 v255 v256 v257 v258 v259 v260 v261 v262 v263 v264 v265 v266 v267 v268 v269 v270 v271 v272 v273 v274 v275 v276 v277 v278 v279 v280 v281 v282 v283 v284 v285 v286 v287 v288 v289 v290 v291 v292 v293 v294 v295 v296 v297 v298 v299 v300 v301 v302 v303 v304 v305 v306 v307 v308 v309 v310 v311 v312 v313 v314 v315 v316 v317 v318 v319 v320 v321 v322 v323 v324 v325 v326 v327 v328 v329 v330 v331 v332 v333 : Value) (W : World) (gP gpf n : Nat) (PF : Nat → Int) (hn : n ≤ 3) (hPb : ∀ i, 0 ≤ PF i ∧ PF i ≤ 255) (hP : Blk W gP 23 3 (fun i => .int .u8 (PF i))) (hF : Blk W gpf 21 n (fun i => .int .i32 0)) :
    Code.wp Ybaf.prog (blkIn Ybaf.f3 6) (Exit.then (fun a' W' => ∃ (u27 u146 u147 u148 u149 u150 u151 u152 u153 u154 u155 u156 u157 u158 : Value), (Blk W' gpf 21 n (fun i => .int .i32 (PF i % 9)) ∧ Wid (fun b => b ≠ gpf) W W') ∧ a' = ⟨#[v0, v1, v2, v3, v4, v5, v6, v7, v8, v9, .pointer (some ⟨gP, 0, none⟩), v11, v12, .int .i64 (n : Int), v14, v15, v16, v17, v18, v19, v20, v21, v22, v23, v24, v25, .slice (some ⟨gpf, 0, none⟩) n n, u27, v28, v29, v30, v31, v32, v33, v34, v35, v36, v37, v38, v39, v40, v41, v42, v43, v44, v45, v46, v47, v48, v49, v50, v51, v52, v53, v54, v55, v56, v57, v58, v59, v60, v61, v62, v63, v64, v65, v66, v67, v68, v69, v70, v71, v72, v73, v74, v75, v76, v77, v78, v79, v80, v81, v82, v83, v84, v85, v86, v87, v88, v89, v90, v91, v92, v93, v94, v95, v96, v97, v98, v99, v100, v101, v102, v103, v104, v105, v106, v107, v108, v109, v110, v111, v112, v113, v114, v115, v116, v117, v118, v119, v120, v121, v122, v123, v124, v125, v126, v127, v128, v129, v130, v131, v132, v133, v134, v135, v136, v137, v138, v139, v140, v141, v142, v143, v144, v145, u146, u147, u148, u149, u150, u151, u152, u153, u154, u155, u156, u157, u158, v159, v160, v161, v162, v163, v164, v165, v166, v167, v168, v169, v170, v171, v172, v173, v174, v175, v176, v177, v178, v179, v180, v181, v182, v183, v184, v185, v186, v187, v188, v189, v190, v191, v192, v193, v194, v195, v196, v197, v198, v199, v200, v201, v202, v203, v204, v205, v206, v207, v208, v209, v210, v211, v212, v213, v214, v215, v216, v217, v218, v219, v220, v221, v222, v223, v224, v225, v226, v227, v228, v229, v230, v231, v232, v233, v234, v235, v236, v237, v238, v239, v240, v241, v242, v243, v244, v245, v246, v247, v248, v249, v250, v251, v252, v253, v254, v255, v256, v257, v258, v259, v260, v261, v262, v263, v264, v265, v266, v267, v268, v269, v270, v271, v272, v273, v274, v275, v276, v277, v278, v279, v280, v281, v282, v283, v284, v285, v286, v287, v288, v289, v290, v291, v292, v293, v294, v295, v296, v297, v298, v299, v300, v301, v302, v303, v304, v305, v306, v307, v308, v309, v310, v311, v312, v313, v314, v315, v316, v317, v318, v319, v320, v321, v322, v323, v324, v325, v326, v327, v328, v329, v330, v331, v332, v333], []⟩) (fun _ _ _ => False)) ⟨#[v0, v1, v2, v3, v4, v5, v6, v7, v8, v9, .pointer (some ⟨gP, 0, none⟩), v11, v12, .int .i64 (n : Int), v14, v15, v16, v17, v18, v19, v20, v21, v22, v23, v24, v25, .slice (some ⟨gpf, 0, none⟩) n n, .int .i64 0, v28, v29, v30, v31, v32, v33, v34, v35, v36, v37, v38, v39, v40, v41, v42, v43, v44, v45, v46, v47, v48, v49, v50, v51, v52, v53, v54, v55, v56, v57, v58, v59, v60, v61, v62, v63, v64, v65, v66, v67, v68, v69, v70, v71, v72, v73, v74, v75, v76, v77, v78, v79, v80, v81, v82, v83, v84, v85, v86, v87, v88, v89, v90, v91, v92, v93, v94, v95, v96, v97, v98, v99, v100, v101, v102, v103, v104, v105, v106, v107, v108, v109, v110, v111, v112, v113, v114, v115, v116, v117, v118, v119, v120, v121, v122, v123, v124, v125, v126, v127, v128, v129, v130, v131, v132, v133, v134, v135, v136, v137, v138, v139, v140, v141, v142, v143, v144, v145, v146, v147, v148, v149, v150, v151, v152, v153, v154, v155, v156, v157, v158, v159, v160, v161, v162, v163, v164, v165, v166, v167, v168, v169, v170, v171, v172, v173, v174, v175, v176, v177, v178, v179, v180, v181, v182, v183, v184, v185, v186, v187, v188, v189, v190, v191, v192, v193, v194, v195, v196, v197, v198, v199, v200, v201, v202, v203, v204, v205, v206, v207, v208, v209, v210, v211, v212, v213, v214, v215, v216, v217, v218, v219, v220, v221, v222, v223, v224, v225, v226, v227, v228, v229, v230, v231, v232, v233, v234, v235, v236, v237, v238, v239, v240, v241, v242, v243, v244, v245, v246, v247, v248, v249, v250, v251, v252, v253, v254, v255, v256, v257, v258, v259, v260, v261, v262, v263, v264, v265, v266, v267, v268, v269, v270, v271, v272, v273, v274, v275, v276, v277, v278, v279, v280, v281, v282, v283, v284, v285, v286, v287, v288, v289, v290, v291, v292, v293, v294, v295, v296, v297, v298, v299, v300, v301, v302, v303, v304, v305, v306, v307, v308, v309, v310, v311, v312, v313, v314, v315, v316, v317, v318, v319, v320, v321, v322, v323, v324, v325, v326, v327, v328, v329, v330, v331, v332, v333], []⟩ W := by
  conv => arg 2; whnf
  have HPB := Hid.intro hPb
  have hne : gP ≠ gpf := fun e => by
    obtain ⟨cs, hb, _⟩ := hP
    obtain ⟨cs', hb', _⟩ := hF
    subst e
    rw [hb] at hb'
    simp at hb'
  clear hPb
  go_wp2_with fail
  go_loopw [27] (fun vp wr => ∃ p : Nat, p ≤ n ∧ vp = .int .i64 p ∧ Blk wr gpf 21 n (fun i => .int .i32 (if i < p then PF i % 9 else 0)) ∧ Wid (fun b => b ≠ gpf) W wr) (fun vp _ => n - (intOf vp).toNat)
  case atStart => exact ⟨0, by omega, rfl, hF.congr (fun i hi => by rw [if_neg (by omega)]), Wid.refl _ _⟩
  case round =>
    obtain ⟨p, hp, rfl, hB, hW⟩ := hrel
    by_cases hlt : p < n
    · have hpc := (hP.same (hW.block gP hP.lt hne)).cell (i := p) (by omega)
      have hfc := hB.cell (i := p) hlt
      have hff := hB.free p
      have hb := HPB.out p
      have hB2 : Blk (wr.setCell ⟨gpf, p, none⟩ (.int .i32 (PF p % 9))) gpf 21 n (fun i => .int .i32 (if i < p + 1 then PF i % 9 else 0)) := (hB.set p _).congr fun i hi => by
        by_cases e : i = p
        · rw [if_pos e, if_pos (by omega), e]
        · rw [if_neg e]
          by_cases e2 : i < p
          · rw [if_pos e2, if_pos (by omega)]
          · rw [if_neg e2, if_neg (by omega)]
      have hW2 : Wid (fun b => b ≠ gpf) W (wr.setCell ⟨gpf, p, none⟩ (.int .i32 (PF p % 9))) := hW.trans (Wid.of_set _ _ _ (fun k hk => hk))
      have HB2 := Hid.intro hB2
      have HW2 := Hid.intro hW2
      clear hB2 hW2 hW hP hF
      go_wp2
      go_roundw
      case rel => exact ⟨p + 1, by omega, by go_num, HB2.out, HW2.out⟩
      case measure => simp [intOf]; omega
    · obtain rfl : p = n := by omega
      have hB2 : Blk wr gpf 21 p (fun i => .int .i32 (PF i % 9)) := hB.congr fun i hi => by rw [if_pos hi]
      have HB2 := Hid.intro hB2
      have HW2 := Hid.intro hW
      clear hB2 hB hW hP hF
      go_wp2
      exact ⟨_, _, _, _, _, _, _, _, _, _, _, _, _, _, ⟨HB2.out, HW2.out⟩, rfl⟩

end Go.Proofs.YbulkcjpqFmt
