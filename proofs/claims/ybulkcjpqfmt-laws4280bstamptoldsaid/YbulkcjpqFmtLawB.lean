import Derived.Test.YbulkcjpqFmtLawA
namespace Go.Proofs.YbulkcjpqFmt
open Go.ChangeShapes Go.WideShapes Go.ChangeAt Go.RowKit Go.Deep
set_option linter.unusedVariables false
set_option linter.unusedSimpArgs false

theorem Bar.cell {x : Nat} {W W' : World} (h : Bar x W.heap.size W W') {a : Addr} {u : Value} (hx : a.block ≠ x) (hc : W.cell? a = some u) : W'.cell? a = some u :=
  (World.cell?_of_block (h.block _ (block_lt_of_cell hc) hx)).trans hc

theorem Q3.stepN {W wc : World} {gk : Nat} {nv cv u : Value} {nn nc : List Value} {kcf : Nat → Value} {ops : Array Oper} {rest : List Oper} {o : Oper} {a : Act} {Q : Exit → Act → World → Prop}
    (hg : o.guard = none) (s x : Operand) (hop : o.op = Op.call { callee := Callee.builtin Builtin.append, args := #[s, x], argTypes := #[33, 33] })
    (h : Q3 W gk wc nv cv nn nc kcf) (hs : a.eval s = nv) (hx : a.eval x = .slice (some ⟨wc.heap.size, 0, none⟩) 1 1) (hu : u.oneCell' = true) (hlen : nn.length ≤ 100)
    (hK : ∀ v' w3, Q3 W gk w3 v' cv (nn ++ [u]) nc kcf → wpList Ybaf.prog ops Q rest (a.put o.dst v') w3) :
    wpList Ybaf.prog ops Q (o :: rest) a (wc.alloc (.cells #[u] 9)) := by
  obtain ⟨i0, hi0, hz0, hz1, hz2⟩ := info_parts info9
  have hz := h.bar.size
  refine wpList_append_own _ hg s x 33 hop W.heap.size 9 i0 (.string ⟨#[]⟩) 1 16 Ybaf.underlying33 hi0 hz0 hz1 hz2 rfl (by decide) nv _ _ hs (h.on.alloc _) ⟨wc.heap.size, 0, none⟩ 1 1 [u] hx rfl ?_ (by simpa using hu) (by unfold maxLen; omega) (by omega) (by simp; omega) ?_
  · exact fun j y hj => news_one wc u 9 j y hj
  · intro v' w3 ho hgr _
    exact hK v' w3 (h.addN ho hgr)

theorem Q3.stepC {W wc : World} {gk : Nat} {nv cv u : Value} {nn nc : List Value} {kcf : Nat → Value} {ops : Array Oper} {rest : List Oper} {o : Oper} {a : Act} {Q : Exit → Act → World → Prop}
    (hg : o.guard = none) (s x : Operand) (hop : o.op = Op.call { callee := Callee.builtin Builtin.append, args := #[s, x], argTypes := #[34, 34] })
    (h : Q3 W gk wc nv cv nn nc kcf) (hs : a.eval s = cv) (hx : a.eval x = .slice (some ⟨wc.heap.size, 0, none⟩) 1 1) (hu : u.oneCell' = true) (hlen : nc.length ≤ 100)
    (hK : ∀ v' w3, Q3 W gk w3 nv v' nn (nc ++ [u]) kcf → wpList Ybaf.prog ops Q rest (a.put o.dst v') w3) :
    wpList Ybaf.prog ops Q (o :: rest) a (wc.alloc (.cells #[u] 24)) := by
  obtain ⟨i0, hi0, hz0, hz1, hz2⟩ := info_parts info24
  have hz := h.bar.size
  refine wpList_append_own _ hg s x 34 hop W.heap.size 24 i0 (.int .u64 0) 1 8 Ybaf.underlying34 hi0 hz0 hz1 hz2 rfl (by decide) cv _ _ hs (h.oc.alloc _) ⟨wc.heap.size, 0, none⟩ 1 1 [u] hx rfl ?_ (by simpa using hu) (by unfold maxLen; omega) (by omega) (by simp; omega) ?_
  · exact fun j y hj => news_one wc u 24 j y hj
  · intro v' w3 ho hgr _
    exact hK v' w3 (h.addC ho hgr)

/-- The count of process q at a kept place. -/
def cntAt (lc : Nat) (E : Nat → Int) (base q : Nat) : Int := if lc = 0 then 0 else E ((base + q) % lc) % 10

set_option maxHeartbeats 4000000 in
set_option maxRecDepth 20000 in
theorem law_blk4 (v0 v1 v2 v3 v4 v6 v7 v8 v9 v10 v11 v12 v13 v15 v16 v17 v23 v24 v25 v26 v27 v28 v29 v30 v31 v32 v33 v34 v35 v36 v37 v38 v39 v40 v41 v42 v43 v44 v45 v46 v47 v48 v49 v50 v51 v52 v53 v54 v55 v56 v57 v58 v59 v60 v61 v62 v63 v64 v65 v66 v67 v68 v69 v70 v71 v72 v73 v74 v75 v76 v77 v78 v79 v80 v81 v82 v83 v84 v85 v86 v87 v88 v89 v90 v91 v92 v93 v94 v95 v96 v97 v98 v99 v100 v101 v102 v103 v104 v105 v106 v107 v108 v109 v110 v111 v112 v113 v114 v115 v116 v117 v118 v119 v120 v121 v122 v123 v124 v125 v126 v127 v128 v129 v130 v131 v132 v133 v134 v135 v136 v137 v138 v139 v140 v141 v142 v143 v144 v145 v146 v147 v148 v149 v150 v151 v152 v153 v154 v155 v156 v157 v158 v159 v160 v161 v162 v163 v164 v165 v166 v167 v168 v169 v170 v171 v172 v173 v174 v175 v176 v177 v178 v179 v180 v181 v182 v183 v184 v185 v186 v187 v188 v189 v190 v191 v192 v193 v194 v195 v196 v197 v198 v199 v200 v201 v202 v203 v204 v205 v206 v207 v208 v209 v210 v211 v212 v213 v214 v215 v216 v217 v218 v219 v220 v221 v222 v223 v224 v225 v226 v227 v228 v229 v230 v231 v232 v233 v234 v235 v236 v237 v238 v239 v240 v241 v242 v243 v244 v245 v246 v247 v248 v249 v250 v251 v252 v253 v254 v255 v256 v257 v258 v259 v260 v261 v262 v263 v264 v265 v266 v267 v268 v269 v270 v271 v272 v273 v274 v275 v276 v277 v278 v279 v280 v281 v282 v283 v284 v285 v286 v287 v288 v289 v290 v291 v292 v293 v294 v295 v296 v297 v298 v299 v300 v301 v302 v303 v304 v305 v306 v307 v308 v309 v310 v311 v312 v313 v314 v315 v316 v317 v318 v319 v320 v321 v322 v323 v324 v325 v326 v327 v328 v329 v330 v331 v332 v333 : Value) (W : World) (gk p pl lc cc : Nat) (ac : Option Addr) (E : Nat → Int) (kc0 : Nat → Value) (hp : p < 3) (hpl : pl < 8) (hlc : lc ≤ 9223372036854775807) (hE : ∀ i, 0 ≤ E i ∧ E i ≤ 255) (hkc : Blk W gk 27 72 kc0)
    (hcnt : 0 < lc → ∃ g o, ac = some ⟨g, o, none⟩ ∧ g ≠ gk ∧ ∀ i, i < lc → W.cell? ⟨g, o + i, none⟩ = some (.int .u8 (E i))) :
    Code.wp Ybaf.prog (blkIn Ybaf.f3 4) (Exit.then (fun a' W' => ∃ (nv cv u22 u23 u82 u83 u84 u85 u86 u87 u88 u89 u90 u91 u92 u93 u94 u95 u96 u97 u98 u99 u100 u101 u102 u103 u104 u105 u106 u107 u108 u109 u110 u111 u112 u113 u114 u115 u116 u117 u118 u119 u120 u121 : Value), PH3 W gk ((p * 8 + pl) * 3) (cntAt lc E ((p * 8 + pl) * 3)) kc0 3 nv cv W' ∧ a' = ⟨#[v0, v1, v2, v3, v4, .slice ac lc cc, v6, v7, v8, v9, v10, v11, v12, v13, .pointer (some ⟨gk, 0, none⟩), v15, v16, v17, .int .i64 (p : Int), .int .i64 (pl : Int), nv, cv, u22, u23, v24, v25, v26, v27, v28, v29, v30, v31, v32, v33, v34, v35, v36, v37, v38, v39, v40, v41, v42, v43, v44, v45, v46, v47, v48, v49, v50, v51, v52, v53, v54, v55, v56, v57, v58, v59, v60, v61, v62, v63, v64, v65, v66, v67, v68, v69, v70, v71, v72, v73, v74, v75, v76, v77, v78, v79, v80, v81, u82, u83, u84, u85, u86, u87, u88, u89, u90, u91, u92, u93, u94, u95, u96, u97, u98, u99, u100, u101, u102, u103, u104, u105, u106, u107, u108, u109, u110, u111, u112, u113, u114, u115, u116, u117, u118, u119, u120, u121, v122, v123, v124, v125, v126, v127, v128, v129, v130, v131, v132, v133, v134, v135, v136, v137, v138, v139, v140, v141, v142, v143, v144, v145, v146, v147, v148, v149, v150, v151, v152, v153, v154, v155, v156, v157, v158, v159, v160, v161, v162, v163, v164, v165, v166, v167, v168, v169, v170, v171, v172, v173, v174, v175, v176, v177, v178, v179, v180, v181, v182, v183, v184, v185, v186, v187, v188, v189, v190, v191, v192, v193, v194, v195, v196, v197, v198, v199, v200, v201, v202, v203, v204, v205, v206, v207, v208, v209, v210, v211, v212, v213, v214, v215, v216, v217, v218, v219, v220, v221, v222, v223, v224, v225, v226, v227, v228, v229, v230, v231, v232, v233, v234, v235, v236, v237, v238, v239, v240, v241, v242, v243, v244, v245, v246, v247, v248, v249, v250, v251, v252, v253, v254, v255, v256, v257, v258, v259, v260, v261, v262, v263, v264, v265, v266, v267, v268, v269, v270, v271, v272, v273, v274, v275, v276, v277, v278, v279, v280, v281, v282, v283, v284, v285, v286, v287, v288, v289, v290, v291, v292, v293, v294, v295, v296, v297, v298, v299, v300, v301, v302, v303, v304, v305, v306, v307, v308, v309, v310, v311, v312, v313, v314, v315, v316, v317, v318, v319, v320, v321, v322, v323, v324, v325, v326, v327, v328, v329, v330, v331, v332, v333], []⟩) (fun _ _ _ => False)) ⟨#[v0, v1, v2, v3, v4, .slice ac lc cc, v6, v7, v8, v9, v10, v11, v12, v13, .pointer (some ⟨gk, 0, none⟩), v15, v16, v17, .int .i64 (p : Int), .int .i64 (pl : Int), .slice none 0 0, .slice none 0 0, .int .i64 0, v23, v24, v25, v26, v27, v28, v29, v30, v31, v32, v33, v34, v35, v36, v37, v38, v39, v40, v41, v42, v43, v44, v45, v46, v47, v48, v49, v50, v51, v52, v53, v54, v55, v56, v57, v58, v59, v60, v61, v62, v63, v64, v65, v66, v67, v68, v69, v70, v71, v72, v73, v74, v75, v76, v77, v78, v79, v80, v81, v82, v83, v84, v85, v86, v87, v88, v89, v90, v91, v92, v93, v94, v95, v96, v97, v98, v99, v100, v101, v102, v103, v104, v105, v106, v107, v108, v109, v110, v111, v112, v113, v114, v115, v116, v117, v118, v119, v120, v121, v122, v123, v124, v125, v126, v127, v128, v129, v130, v131, v132, v133, v134, v135, v136, v137, v138, v139, v140, v141, v142, v143, v144, v145, v146, v147, v148, v149, v150, v151, v152, v153, v154, v155, v156, v157, v158, v159, v160, v161, v162, v163, v164, v165, v166, v167, v168, v169, v170, v171, v172, v173, v174, v175, v176, v177, v178, v179, v180, v181, v182, v183, v184, v185, v186, v187, v188, v189, v190, v191, v192, v193, v194, v195, v196, v197, v198, v199, v200, v201, v202, v203, v204, v205, v206, v207, v208, v209, v210, v211, v212, v213, v214, v215, v216, v217, v218, v219, v220, v221, v222, v223, v224, v225, v226, v227, v228, v229, v230, v231, v232, v233, v234, v235, v236, v237, v238, v239, v240, v241, v242, v243, v244, v245, v246, v247, v248, v249, v250, v251, v252, v253, v254, v255, v256, v257, v258, v259, v260, v261, v262, v263, v264, v265, v266, v267, v268, v269, v270, v271, v272, v273, v274, v275, v276, v277, v278, v279, v280, v281, v282, v283, v284, v285, v286, v287, v288, v289, v290, v291, v292, v293, v294, v295, v296, v297, v298, v299, v300, v301, v302, v303, v304, v305, v306, v307, v308, v309, v310, v311, v312, v313, v314, v315, v316, v317, v318, v319, v320, v321, v322, v323, v324, v325, v326, v327, v328, v329, v330, v331, v332, v333], []⟩ W := by
  conv => arg 2; whnf
  have HE := Hid.intro hE
  have HCNT := Hid.intro hcnt
  have hgk := hkc.lt
  clear hE hcnt
  go_wp2_with fail
  go_loopw [20, 21, 22] (fun nv cv vq wr => ∃ q : Nat, q ≤ 3 ∧ vq = .int .i64 q ∧ PH3 W gk ((p * 8 + pl) * 3) (cntAt lc E ((p * 8 + pl) * 3)) kc0 q nv cv wr) (fun _ _ vq _ => 3 - (intOf vq).toNat)
  case atStart => exact ⟨0, by omega, rfl, 0, fun _ => 0, [], [], kc0, ⟨Bar.refl _ _ _, hkc, World.ownsRow_nil _ _ _ _, World.ownsRow_nil _ _ _ _, hgk⟩, rfl, rfl, rfl, rfl, ⟨by omega, fun i hi => by omega, fun i hi => by omega, fun i j h1 h2 => by omega, fun q hq h => absurd (if_neg (by omega)) h⟩, fun i hi => by omega, fun i hi => by rw [if_neg (by omega)]⟩
  case round =>
    obtain ⟨q, hq, rfl, hph⟩ := hrel
    have HPH := Hid.intro hph
    obtain ⟨k, F, nn, nc, kcf, hQ, hnl, hcl, hnn, hnc, hsub, hFq, hkcf⟩ := hph
    have HNN := Hid.intro hnn
    have HNC := Hid.intro hnc
    have HSUB := Hid.intro hsub
    have HFQ := Hid.intro hFq
    have HKCF := Hid.intro hkcf
    clear hnn hnc hsub hFq hkcf
    have h3 := HSUB.out.le
    by_cases hlt : q < 3
    · have hkce := hQ.kc.cell (i := p * 24 + pl * 3 + q) (by omega)
      have hkfr := hQ.kc.free (p * 24 + pl * 3 + q)
      by_cases hl0 : 0 < lc
      · obtain ⟨g, o, rfl, hgne, hci⟩ := HCNT.out hl0
        have hm : (((p * 8 + pl) * 3) + q) % lc < lc := Nat.mod_lt _ hl0
        have hce := hQ.bar.cell (a := ⟨g, o + (((p * 8 + pl) * 3) + q) % lc, none⟩) hgne (hci _ hm)
        have hEb := HE.out ((((p * 8 + pl) * 3) + q) % lc)
        have hcq : (cntAt lc E ((p * 8 + pl) * 3)) q = E ((((p * 8 + pl) * 3) + q) % lc) % 10 := by unfold cntAt; rw [if_neg (by omega)]
        have hmi0 : (0 : Int) ≤ (((p : Int) * 8 + (pl : Int)) * 3 + (q : Int)) % (lc : Int) := Int.emod_nonneg _ (by omega)
        have hmi1 : (((p : Int) * 8 + (pl : Int)) * 3 + (q : Int)) % (lc : Int) < (lc : Int) := Int.emod_lt_of_pos _ (by omega)
        clear hci
        go_upto_region 25 with fail
        have hQ2 := hQ.put (p * 24 + pl * 3 + q) (.int .u64 (E ((((p * 8 + pl) * 3) + q) % lc) % 10))
        have hkn : ∀ i, i < 72 → (if i = p * 24 + pl * 3 + q then Value.int .u64 (E ((((p * 8 + pl) * 3) + q) % lc) % 10) else kcf i) = if ((p * 8 + pl) * 3) ≤ i ∧ i < ((p * 8 + pl) * 3) + (q + 1) then .int .u64 ((cntAt lc E ((p * 8 + pl) * 3)) (i - ((p * 8 + pl) * 3))) else kc0 i := fun i hi => by
          have := kc_more HKCF.out i hi
          rw [← this, hcq, show ((p * 8 + pl) * 3) + q = p * 24 + pl * 3 + q by omega]
        generalize wr.setCell ⟨gk, p * 24 + pl * 3 + q, none⟩ (.int .u64 (E ((((p * 8 + pl) * 3) + q) % lc) % 10)) = w2 at hQ2 ⊢
        have HKN := Hid.intro hkn
        clear hkn hQ
        clear hce hkce hkfr hmi0 hmi1
        by_cases hz : 0 < E ((((p * 8 + pl) * 3) + q) % lc) % 10
        · have HZ : Hid (0 < (cntAt lc E ((p * 8 + pl) * 3)) q) := (by rw [hcq]; exact hz)
          go_wp2_with (first | (go_at_call 4; refine (name_any q hlt _).mono ?_; rintro e w' ⟨rfl, rfl⟩) | (at_builtin; refine Q3.stepN (u := namV q) rfl (.tmp 113) (.tmp 116) rfl hQ2 rfl rfl rfl (by omega) ?_; intro v' w3 hQ3) | (at_builtin; refine Q3.stepC (u := .int .u64 (E ((((p * 8 + pl) * 3) + q) % lc) % 10)) rfl (.tmp 118) (.tmp 120) rfl hQ3 rfl rfl rfl (by omega) ?_; intro v'' w4 hQ4))
          go_roundw
          case rel => exact ⟨q + 1, by omega, by go_num, k + 1, _, _, _, _, hQ4, by simp; omega, by simp; omega, names_more HNN.out, (by rw [← hcq]; exact counts_more HNC.out), HSUB.out.step1 HFQ.out hlt (by have := HZ.out; omega), fun i hi => (by show (if i = k then q else F i) < q + 1; split; omega; have := HFQ.out i (by omega); omega), HKN.out⟩
          case measure => simp [intOf]; omega
        · have HZ : Hid (¬ 0 < (cntAt lc E ((p * 8 + pl) * 3)) q) := (by rw [hcq]; exact hz)
          go_wp2
          go_roundw
          case rel => exact ⟨q + 1, by omega, by go_num, _, _, _, _, _, hQ2, hnl, hcl, HNN.out, HNC.out, HSUB.out.step0 (by have := HZ.out; rw [hcq] at this ⊢; omega), fun i hi => (by have := HFQ.out i hi; omega), HKN.out⟩
          case measure => simp [intOf]; omega
      · obtain rfl : lc = 0 := by omega
        have hcq : (cntAt 0 E ((p * 8 + pl) * 3)) q = 0 := rfl
        go_upto_region 25 with fail
        have hQ2 := hQ.put (p * 24 + pl * 3 + q) (.int .u64 (0))
        have hkn : ∀ i, i < 72 → (if i = p * 24 + pl * 3 + q then Value.int .u64 (0) else kcf i) = if ((p * 8 + pl) * 3) ≤ i ∧ i < ((p * 8 + pl) * 3) + (q + 1) then .int .u64 ((cntAt 0 E ((p * 8 + pl) * 3)) (i - ((p * 8 + pl) * 3))) else kc0 i := fun i hi => by
          have := kc_more HKCF.out i hi
          rw [← this, hcq, show ((p * 8 + pl) * 3) + q = p * 24 + pl * 3 + q by omega]
        generalize wr.setCell ⟨gk, p * 24 + pl * 3 + q, none⟩ (.int .u64 (0)) = w2 at hQ2 ⊢
        have HKN := Hid.intro hkn
        clear hkn hQ
        clear hkce hkfr
        have HZ : Hid (¬ 0 < (cntAt 0 E ((p * 8 + pl) * 3)) q) := (by rw [hcq]; exact Int.lt_irrefl 0)
        go_wp2
        go_roundw
        case rel => exact ⟨q + 1, by omega, by go_num, _, _, _, _, _, hQ2, hnl, hcl, HNN.out, HNC.out, HSUB.out.step0 (by exact hcq), fun i hi => (by have := HFQ.out i hi; omega), HKN.out⟩
        case measure => simp [intOf]; omega
    · obtain rfl : q = 3 := by omega
      go_wp2
      exact ⟨_, _, _, _, _, _, _, _, _, _, _, _, _, _, _, _, _, _, _, _, _, _, _, _, _, _, _, _, _, _, _, _, _, _, _, _, _, _, _, _, _, _, _, _, HPH.out, rfl⟩

end Go.Proofs.YbulkcjpqFmt
