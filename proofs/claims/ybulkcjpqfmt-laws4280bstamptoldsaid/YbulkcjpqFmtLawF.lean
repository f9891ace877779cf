import Derived.Test.YbulkcjpqFmtLawE
namespace Go.Proofs.YbulkcjpqFmt
open Go.ChangeShapes Go.WideShapes Go.ChangeAt Go.RowKit Go.Deep
set_option linter.unusedVariables false
set_option linter.unusedSimpArgs false

theorem row_len {W : World} {b size n : Nat} {e : TypeId} {v : Value} {xs : List Value} (h : W.ownsRow b e size v n xs) : ∃ a c, v = .slice a n c := by
  rcases h.2 with ⟨rfl, h0⟩ | ⟨g, cap, cur, rfl, _⟩
  · exact ⟨none, 0, by rw [h0]⟩
  · exact ⟨_, _, rfl⟩

set_option maxHeartbeats 4000000 in
set_option maxRecDepth 20000 in
theorem law_blk0 (v0 v1 v2 v3 v4 v6 v7 v8 v10 v11 v12 v19 v20 v21 v22 v23 v24 v25 v26 v27 v28 v29 v30 v31 v32 v33 v34 v35 v36 v37 v38 v39 v40 v41 v42 v43 v44 v45 v46 v47 v48 v49 v50 v51 v52 v53 v54 v55 v56 v57 v58 v59 v60 v61 v62 v63 v64 v65 v66 v67 v68 v69 v70 v71 v72 v73 v74 v75 v76 v77 v78 v79 v80 v81 v82 v83 v84 v85 v86 v87 v88 v89 v90 v91 v92 v93 v94 v95 v96 v97 v98 v99 v100 v101 v102 v103 v104 v105 v106 v107 v108 v109 v110 v111 v112 v113 v114 v115 v116 v117 v118 v119 v120 v121 v122 v123 v124 v125 v126 v127 v128 v129 v130 v131 v132 v133 v134 v135 v136 v137 v138 v139 v140 v141 v142 v143 v144 v145 v146 v147 v148 v149 v150 v151 v152 v153 v154 v155 v156 v157 v158 v159 v160 v161 v162 v163 v164 v165 v166 v167 v168 v169 v170 v171 v172 v173 v174 v175 v176 v177 v178 v179 v180 v181 v182 v183 v184 v185 v186 v187 v188 v189 v190 v191 v192 v193 v194 v195 v196 v197 v198 v199 v200 v201 v202 v203 v204 v205 v206 v207 v208 v209 v210 v211 v212 v213 v214 v215 v216 v217 v218 v219 v220 v221 v222 v223 v224 v225 v226 v227 v228 v229 v230 v231 v232 v233 v234 v235 v236 v237 v238 v239 v240 v241 v242 v243 v244 v245 v246 v247 v248 v249 v250 v251 v252 v253 v254 v255 v256 v257 v258 v259 v260 v261 v262 v263 v264 v265 v266 v267 v268 v269 v270 v271 v272 v273 v274 v275 v276 v277 v278 v279 v280 v281 v282 v283 v284 v285 v286 v287 v288 v289 v290 v291 v292 v293 v294 v295 v296 v297 v298 v299 v300 v301 v302 v303 v304 v305 v306 v307 v308 v309 v310 v311 v312 v313 v314 v315 v316 v317 v318 v319 v320 v321 v322 v323 v324 v325 v326 v327 v328 v329 v330 v331 v332 v333 : Value) (w W : World) (v : Value) (gM gP gk gh gs n lc cc : Nat) (ac : Option Addr) (E M PF : Nat → Int) (hn : n ≤ 3) (hMb : ∀ i, 0 ≤ M i ∧ M i ≤ 255) (hlc : lc ≤ 9223372036854775807) (hE : ∀ i, 0 ≤ E i ∧ E i ≤ 255)
    (hcnt : 0 < lc → ∃ g o, ac = some ⟨g, o, none⟩ ∧ ∀ i, i < lc → w.cell? ⟨g, o + i, none⟩ = some (.int .u8 (E i))) (hLA : LA w W gM gP gk gh gs n lc E M PF (0 * 8) 0 v) :
    Code.wp Ybaf.prog (blkIn Ybaf.f3 0) (Exit.then (fun a' W' => ∃ (v' u12 u18 u19 u20 u21 u22 u23 u24 u25 u57 u58 u59 u60 u61 u62 u63 u64 u65 u66 u67 u68 u69 u70 u71 u72 u73 u74 u75 u76 u77 u78 u79 u80 u81 u82 u83 u84 u85 u86 u87 u88 u89 u90 u91 u92 u93 u94 u95 u96 u97 u98 u99 u100 u101 u102 u103 u104 u105 u106 u107 u108 u109 u110 u111 u112 u113 u114 u115 u116 u117 u118 u119 u120 u121 u122 u123 u124 u125 u126 u127 u128 u129 u130 u131 u132 u133 u134 u135 u136 u137 u138 u139 u140 u141 u142 u143 : Value), LA w W' gM gP gk gh gs n lc E M PF (n * 8) n v' ∧ a' = ⟨#[v0, v1, v2, v3, v4, .slice ac lc cc, v6, v7, v8, .pointer (some ⟨gM, 0, none⟩), v10, v11, u12, .int .i64 (n : Int), .pointer (some ⟨gk, 0, none⟩), .pointer (some ⟨gh, 0, none⟩), .slice (some ⟨gs, 0, none⟩) (n + 1) (n + 1), v', u18, u19, u20, u21, u22, u23, u24, u25, v26, v27, v28, v29, v30, v31, v32, v33, v34, v35, v36, v37, v38, v39, v40, v41, v42, v43, v44, v45, v46, v47, v48, v49, v50, v51, v52, v53, v54, v55, v56, u57, u58, u59, u60, u61, u62, u63, u64, u65, u66, u67, u68, u69, u70, u71, u72, u73, u74, u75, u76, u77, u78, u79, u80, u81, u82, u83, u84, u85, u86, u87, u88, u89, u90, u91, u92, u93, u94, u95, u96, u97, u98, u99, u100, u101, u102, u103, u104, u105, u106, u107, u108, u109, u110, u111, u112, u113, u114, u115, u116, u117, u118, u119, u120, u121, u122, u123, u124, u125, u126, u127, u128, u129, u130, u131, u132, u133, u134, u135, u136, u137, u138, u139, u140, u141, u142, u143, v144, v145, v146, v147, v148, v149, v150, v151, v152, v153, v154, v155, v156, v157, v158, v159, v160, v161, v162, v163, v164, v165, v166, v167, v168, v169, v170, v171, v172, v173, v174, v175, v176, v177, v178, v179, v180, v181, v182, v183, v184, v185, v186, v187, v188, v189, v190, v191, v192, v193, v194, v195, v196, v197, v198, v199, v200, v201, v202, v203, v204, v205, v206, v207, v208, v209, v210, v211, v212, v213, v214, v215, v216, v217, v218, v219, v220, v221, v222, v223, v224, v225, v226, v227, v228, v229, v230, v231, v232, v233, v234, v235, v236, v237, v238, v239, v240, v241, v242, v243, v244, v245, v246, v247, v248, v249, v250, v251, v252, v253, v254, v255, v256, v257, v258, v259, v260, v261, v262, v263, v264, v265, v266, v267, v268, v269, v270, v271, v272, v273, v274, v275, v276, v277, v278, v279, v280, v281, v282, v283, v284, v285, v286, v287, v288, v289, v290, v291, v292, v293, v294, v295, v296, v297, v298, v299, v300, v301, v302, v303, v304, v305, v306, v307, v308, v309, v310, v311, v312, v313, v314, v315, v316, v317, v318, v319, v320, v321, v322, v323, v324, v325, v326, v327, v328, v329, v330, v331, v332, v333], []⟩) (fun _ _ _ => False)) ⟨#[v0, v1, v2, v3, v4, .slice ac lc cc, v6, v7, v8, .pointer (some ⟨gM, 0, none⟩), v10, v11, v12, .int .i64 (n : Int), .pointer (some ⟨gk, 0, none⟩), .pointer (some ⟨gh, 0, none⟩), .slice (some ⟨gs, 0, none⟩) (n + 1) (n + 1), v, .int .i64 0, v19, v20, v21, v22, v23, v24, v25, v26, v27, v28, v29, v30, v31, v32, v33, v34, v35, v36, v37, v38, v39, v40, v41, v42, v43, v44, v45, v46, v47, v48, v49, v50, v51, v52, v53, v54, v55, v56, v57, v58, v59, v60, v61, v62, v63, v64, v65, v66, v67, v68, v69, v70, v71, v72, v73, v74, v75, v76, v77, v78, v79, v80, v81, v82, v83, v84, v85, v86, v87, v88, v89, v90, v91, v92, v93, v94, v95, v96, v97, v98, v99, v100, v101, v102, v103, v104, v105, v106, v107, v108, v109, v110, v111, v112, v113, v114, v115, v116, v117, v118, v119, v120, v121, v122, v123, v124, v125, v126, v127, v128, v129, v130, v131, v132, v133, v134, v135, v136, v137, v138, v139, v140, v141, v142, v143, v144, v145, v146, v147, v148, v149, v150, v151, v152, v153, v154, v155, v156, v157, v158, v159, v160, v161, v162, v163, v164, v165, v166, v167, v168, v169, v170, v171, v172, v173, v174, v175, v176, v177, v178, v179, v180, v181, v182, v183, v184, v185, v186, v187, v188, v189, v190, v191, v192, v193, v194, v195, v196, v197, v198, v199, v200, v201, v202, v203, v204, v205, v206, v207, v208, v209, v210, v211, v212, v213, v214, v215, v216, v217, v218, v219, v220, v221, v222, v223, v224, v225, v226, v227, v228, v229, v230, v231, v232, v233, v234, v235, v236, v237, v238, v239, v240, v241, v242, v243, v244, v245, v246, v247, v248, v249, v250, v251, v252, v253, v254, v255, v256, v257, v258, v259, v260, v261, v262, v263, v264, v265, v266, v267, v268, v269, v270, v271, v272, v273, v274, v275, v276, v277, v278, v279, v280, v281, v282, v283, v284, v285, v286, v287, v288, v289, v290, v291, v292, v293, v294, v295, v296, v297, v298, v299, v300, v301, v302, v303, v304, v305, v306, v307, v308, v309, v310, v311, v312, v313, v314, v315, v316, v317, v318, v319, v320, v321, v322, v323, v324, v325, v326, v327, v328, v329, v330, v331, v332, v333], []⟩ W := by
  conv => arg 2; whnf
  have HE := Hid.intro hE
  have HMB := Hid.intro hMb
  have HCNT := Hid.intro hcnt
  clear hE hcnt hMb
  go_wp2_with fail
  go_loopw [17, 18] (fun v vp wr => ∃ p : Nat, p ≤ n ∧ vp = .int .i64 p ∧ LA w wr gM gP gk gh gs n lc E M PF (p * 8) p v) (fun _ vp _ => n - (intOf vp).toNat)
  case atStart => exact ⟨0, by omega, rfl, hLA⟩
  case round =>
    obtain ⟨p, hp, rfl, hla⟩ := hrel
    have HLA := Hid.intro hla
    clear hLA hla
    by_cases hlt : p < n
    · go_upto_block 2 with fail
      refine wp_then (law_blk2 _ _ _ _ _ _ _ _ _ _ _ _ _ _ _ _ _ _ _ _ _ _ _ _ _ _ _ _ _ _ _ _ _ _ _ _ _ _ _ _ _ _ _ _ _ _ _ _ _ _ _ _ _ _ _ _ _ _ _ _ _ _ _ _ _ _ _ _ _ _ _ _ _ _ _ _ _ _ _ _ _ _ _ _ _ _ _ _ _ _ _ _ _ _ _ _ _ _ _ _ _ _ _ _ _ _ _ _ _ _ _ _ _ _ _ _ _ _ _ _ _ _ _ _ _ _ _ _ _ _ _ _ _ _ _ _ _ _ _ _ _ _ _ _ _ _ _ _ _ _ _ _ _ _ _ _ _ _ _ _ _ _ _ _ _ _ _ _ _ _ _ _ _ _ _ _ _ _ _ _ _ _ _ _ _ _ _ _ _ _ _ _ _ _ _ _ _ _ _ _ _ _ _ _ _ _ _ _ _ _ _ _ _ _ _ _ _ _ _ _ _ _ _ _ _ _ _ _ _ _ _ _ _ _ _ _ _ _ _ _ _ _ _ _ _ _ _ _ _ _ _ _ _ _ _ _ _ _ _ _ _ _ _ _ _ _ _ _ _ _ _ _ _ _ _ _ _ _ _ _ _ _ _ _ _ _ _ _ _ _ _ _ _ _ _ _ _ _ _ _ _ _ _ _ _ _ _ _ _ _ _ _ _ _ _ _ _ _ _ _ _ _ _ _ _ _ _ w wr _ gM gP gk gh gs n p lc cc ac E M PF (by omega) HMB.out hlc HE.out HCNT.out HLA.out) ?_
      intro a' W' hq
      obtain ⟨v', hq⟩ := hq
      obtain ⟨u12, hq⟩ := hq
      obtain ⟨u19, hq⟩ := hq
      obtain ⟨u20, hq⟩ := hq
      obtain ⟨u21, hq⟩ := hq
      obtain ⟨u22, hq⟩ := hq
      obtain ⟨u23, hq⟩ := hq
      obtain ⟨u24, hq⟩ := hq
      obtain ⟨u25, hq⟩ := hq
      obtain ⟨u62, hq⟩ := hq
      obtain ⟨u63, hq⟩ := hq
      obtain ⟨u64, hq⟩ := hq
      obtain ⟨u65, hq⟩ := hq
      obtain ⟨u66, hq⟩ := hq
      obtain ⟨u67, hq⟩ := hq
      obtain ⟨u68, hq⟩ := hq
      obtain ⟨u69, hq⟩ := hq
      obtain ⟨u70, hq⟩ := hq
      obtain ⟨u71, hq⟩ := hq
      obtain ⟨u72, hq⟩ := hq
      obtain ⟨u73, hq⟩ := hq
      obtain ⟨u74, hq⟩ := hq
      obtain ⟨u75, hq⟩ := hq
      obtain ⟨u76, hq⟩ := hq
      obtain ⟨u77, hq⟩ := hq
      obtain ⟨u78, hq⟩ := hq
      obtain ⟨u79, hq⟩ := hq
      obtain ⟨u80, hq⟩ := hq
      obtain ⟨u81, hq⟩ := hq
      obtain ⟨u82, hq⟩ := hq
      obtain ⟨u83, hq⟩ := hq
      obtain ⟨u84, hq⟩ := hq
      obtain ⟨u85, hq⟩ := hq
      obtain ⟨u86, hq⟩ := hq
      obtain ⟨u87, hq⟩ := hq
      obtain ⟨u88, hq⟩ := hq
      obtain ⟨u89, hq⟩ := hq
      obtain ⟨u90, hq⟩ := hq
      obtain ⟨u91, hq⟩ := hq
      obtain ⟨u92, hq⟩ := hq
      obtain ⟨u93, hq⟩ := hq
      obtain ⟨u94, hq⟩ := hq
      obtain ⟨u95, hq⟩ := hq
      obtain ⟨u96, hq⟩ := hq
      obtain ⟨u97, hq⟩ := hq
      obtain ⟨u98, hq⟩ := hq
      obtain ⟨u99, hq⟩ := hq
      obtain ⟨u100, hq⟩ := hq
      obtain ⟨u101, hq⟩ := hq
      obtain ⟨u102, hq⟩ := hq
      obtain ⟨u103, hq⟩ := hq
      obtain ⟨u104, hq⟩ := hq
      obtain ⟨u105, hq⟩ := hq
      obtain ⟨u106, hq⟩ := hq
      obtain ⟨u107, hq⟩ := hq
      obtain ⟨u108, hq⟩ := hq
      obtain ⟨u109, hq⟩ := hq
      obtain ⟨u110, hq⟩ := hq
      obtain ⟨u111, hq⟩ := hq
      obtain ⟨u112, hq⟩ := hq
      obtain ⟨u113, hq⟩ := hq
      obtain ⟨u114, hq⟩ := hq
      obtain ⟨u115, hq⟩ := hq
      obtain ⟨u116, hq⟩ := hq
      obtain ⟨u117, hq⟩ := hq
      obtain ⟨u118, hq⟩ := hq
      obtain ⟨u119, hq⟩ := hq
      obtain ⟨u120, hq⟩ := hq
      obtain ⟨u121, hq⟩ := hq
      obtain ⟨u122, hq⟩ := hq
      obtain ⟨u123, hq⟩ := hq
      obtain ⟨u124, hq⟩ := hq
      obtain ⟨u125, hq⟩ := hq
      obtain ⟨u126, hq⟩ := hq
      obtain ⟨u127, hq⟩ := hq
      obtain ⟨u128, hq⟩ := hq
      obtain ⟨u129, hq⟩ := hq
      obtain ⟨u130, hq⟩ := hq
      obtain ⟨u131, hq⟩ := hq
      obtain ⟨u132, hq⟩ := hq
      obtain ⟨u133, hq⟩ := hq
      obtain ⟨u134, hq⟩ := hq
      obtain ⟨u135, hq⟩ := hq
      obtain ⟨u136, hq⟩ := hq
      obtain ⟨hla, rfl⟩ := hq
      have hla2 := hla.start
      have hsc := hla.hS.cell (i := p + 1) (by omega)
      have hsf := hla.hS.free (p + 1)
      obtain ⟨NV, CV, kcf, h1, h2, h3, h4⟩ := hla.rest
      obtain ⟨a5, c5, rfl⟩ := row_len h3
      have hkl := kl_len M (p * 8 + 8)
      have HLA2 := Hid.intro hla2
      clear hla2 hla h1 h2 h3 h4
      generalize (kl M (p * 8 + 8)).length = L5 at hkl HLA2 ⊢
      go_wp2
      go_roundw
      case rel => exact ⟨p + 1, by omega, by go_num, HLA2.out⟩
      case measure => simp [intOf]; omega
    · obtain rfl : p = n := by omega
      go_wp2
      exact ⟨_, _, _, _, _, _, _, _, _, _, _, _, _, _, _, _, _, _, _, _, _, _, _, _, _, _, _, _, _, _, _, _, _, _, _, _, _, _, _, _, _, _, _, _, _, _, _, _, _, _, _, _, _, _, _, _, _, _, _, _, _, _, _, _, _, _, _, _, _, _, _, _, _, _, _, _, _, _, _, _, _, _, _, _, _, _, _, _, _, _, _, _, _, _, _, _, _, HLA.out, rfl⟩

end Go.Proofs.YbulkcjpqFmt
