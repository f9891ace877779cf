import Derived.Test.YbulkcjpqFmtLawC
namespace Go.Proofs.YbulkcjpqFmt
open Go.ChangeShapes Go.WideShapes Go.ChangeAt Go.RowKit Go.Deep
set_option linter.unusedVariables false
set_option linter.unusedSimpArgs false

/-- The place of event i, from 1. -/
def sqAt (l2 : Nat) (ek : Nat → Nat) (i : Nat) : Int := if l2 = 0 then 1 else (ek (i % l2) : Int) % 8 + 1

theorem Wid.cell {ok : Nat → Prop} {W W' : World} (h : Wid ok W W') {a : Addr} {u : Value} (hx : ok a.block) (hc : W.cell? a = some u) : W'.cell? a = some u :=
  (World.cell?_of_block (h.block _ (block_lt_of_cell hc) hx)).trans hc

theorem Blk.upto {W : World} {g : Nat} {t : TypeId} {N i : Nat} {f : Nat → Value} {z : Value} (h : Blk W g t N (fun j => if j < i then f j else z)) : Blk (W.setCell ⟨g, i, none⟩ (f i)) g t N (fun j => if j < i + 1 then f j else z) :=
  (h.set i _).congr fun j hj => by
    by_cases e : j = i
    · rw [if_pos e, if_pos (by omega), e]
    · rw [if_neg e]
      by_cases e2 : j < i
      · rw [if_pos e2, if_pos (by omega)]
      · rw [if_neg e2, if_neg (by omega)]

set_option maxHeartbeats 4000000 in
set_option maxRecDepth 20000 in
theorem law_blk8 (v0 v3 v4 v5 v6 v7 v8 v9 v10 v11 v12 v14 v15 v16 v17 v18 v19 v20 v21 v22 v23 v24 v25 v26 v27 v32 v33 v34 v35 v36 v37 v38 v39 v40 v41 v42 v43 v44 v45 v46 v47 v48 v49 v50 v51 v52 v53 v54 v55 v56 v57 v58 v59 v60 v61 v62 v63 v64 v65 v66 v67 v68 v69 v70 v71 v72 v73 v74 v75 v76 v77 v78 v79 v80 v81 v82 v83 v84 v85 v86 v87 v88 v89 v90 v91 v92 v93 v94 v95 v96 v97 v98 v99 v100 v101 v102 v103 v104 v105 v106 v107 v108 v109 v110 v111 v112 v113 v114 v115 v116 v117 v118 v119 v120 v121 v122 v123 v124 v125 v126 v127 v128 v129 v130 v131 v132 v133 v134 v135 v136 v137 v138 v139 v140 v141 v142 v143 v144 v145 v146 v147 v148 v149 v150 v151 v152 v153 v154 v155 v156 v157 v158 v159 v160 v161 v162 v163 v164 v165 v166 v167 v168 v169 v170 v171 v172 v173 v174 v175 v176 v177 v178 v179 v180 v181 v182 v183 v184 v185 v186 v187 v188 v189 v190 v191 v192 v193 v194 v195 v196 v197 v198 v199 v200 v201 v202 v203 v204 v205 v206 v207 v208 v209 v210 v211 v212 v213 v214 v215 v216 v217 v218 v219 v220 v221 v222 v223 v224 v225 v226 v227 v228 v229 v230 v231 v232 v233 v234 v235 v236 v237 v238 v239 v240 v241 v242 v243 v244 v245 v246 v247 v248 v249 v250 v251 v252 v253 v254 v255 v256 v257 v258 v259 v260 v261 v262 v263 v264 v265 v266 v267 v268 v269 v270 v271 v272 v273 v274 v275 v276 v277 v278 v279 v280 v281 v282 v283 v284 v285 v286 v287 v288 v289 v290 v291 v292 v293 v294 v295 v296 v297 v298 v299 v300 v301 v302 v303 v304 v305 v306 v307 v308 v309 v310 v311 v312 v313 v314 v315 v316 v317 v318 v319 v320 v321 v322 v323 v324 v325 v326 v327 v328 v329 v330 v331 v332 v333 : Value) (W : World) (gpr gsq n m l2 ce ck : Nat) (ae ak : Option Addr) (ep ek : Nat → Nat) (hn : n ≤ 3) (hn1 : 1 ≤ n) (hm : m ≤ 1024) (hl2 : l2 ≤ 9223372036854775807) (hep : ∀ i, ep i ≤ 255) (hek : ∀ i, ek i ≤ 255)
    (he : 0 < m → ∃ g o, ae = some ⟨g, o, none⟩ ∧ g ≠ gpr ∧ g ≠ gsq ∧ ∀ i, i < m → W.cell? ⟨g, o + i, none⟩ = some (.int .u8 (ep i)))
    (hk : 0 < l2 → ∃ g o, ak = some ⟨g, o, none⟩ ∧ g ≠ gpr ∧ g ≠ gsq ∧ ∀ i, i < l2 → W.cell? ⟨g, o + i, none⟩ = some (.int .u8 (ek i)))
    (hp : Blk W gpr 21 m (fun i => .int .i32 0)) (hs : Blk W gsq 24 m (fun i => .int .u64 0)) :
    Code.wp Ybaf.prog (blkIn Ybaf.f3 8) (Exit.then (fun a' W' => ∃ (u31 u32 u33 u165 u166 u167 u168 u169 u170 u171 u172 u173 u174 u175 u176 u177 u178 u179 u180 u181 u182 u183 u184 u185 u186 u187 u188 u189 u190 u191 u192 u193 u194 u195 u196 u197 u198 u199 : Value), (Blk W' gpr 21 m (fun i => .int .i32 ((ep i : Int) % (n : Int))) ∧ Blk W' gsq 24 m (fun i => .int .u64 (sqAt l2 ek i)) ∧ Wid (fun b => b ≠ gpr ∧ b ≠ gsq) W W') ∧ a' = ⟨#[v0, .slice ae m ce, .slice ak l2 ck, v3, v4, v5, v6, v7, v8, v9, v10, v11, v12, .int .i64 (n : Int), v14, v15, v16, v17, v18, v19, v20, v21, v22, v23, v24, v25, v26, v27, .int .i64 (m : Int), .slice (some ⟨gpr, 0, none⟩) m m, .slice (some ⟨gsq, 0, none⟩) m m, u31, u32, u33, v34, v35, v36, v37, v38, v39, v40, v41, v42, v43, v44, v45, v46, v47, v48, v49, v50, v51, v52, v53, v54, v55, v56, v57, v58, v59, v60, v61, v62, v63, v64, v65, v66, v67, v68, v69, v70, v71, v72, v73, v74, v75, v76, v77, v78, v79, v80, v81, v82, v83, v84, v85, v86, v87, v88, v89, v90, v91, v92, v93, v94, v95, v96, v97, v98, v99, v100, v101, v102, v103, v104, v105, v106, v107, v108, v109, v110, v111, v112, v113, v114, v115, v116, v117, v118, v119, v120, v121, v122, v123, v124, v125, v126, v127, v128, v129, v130, v131, v132, v133, v134, v135, v136, v137, v138, v139, v140, v141, v142, v143, v144, v145, v146, v147, v148, v149, v150, v151, v152, v153, v154, v155, v156, v157, v158, v159, v160, v161, v162, v163, v164, u165, u166, u167, u168, u169, u170, u171, u172, u173, u174, u175, u176, u177, u178, u179, u180, u181, u182, u183, u184, u185, u186, u187, u188, u189, u190, u191, u192, u193, u194, u195, u196, u197, u198, u199, v200, v201, v202, v203, v204, v205, v206, v207, v208, v209, v210, v211, v212, v213, v214, v215, v216, v217, v218, v219, v220, v221, v222, v223, v224, v225, v226, v227, v228, v229, v230, v231, v232, v233, v234, v235, v236, v237, v238, v239, v240, v241, v242, v243, v244, v245, v246, v247, v248, v249, v250, v251, v252, v253, v254, v255, v256, v257, v258, v259, v260, v261, v262, v263, v264, v265, v266, v267, v268, v269, v270, v271, v272, v273, v274, v275, v276, v277, v278, v279, v280, v281, v282, v283, v284, v285, v286, v287, v288, v289, v290, v291, v292, v293, v294, v295, v296, v297, v298, v299, v300, v301, v302, v303, v304, v305, v306, v307, v308, v309, v310, v311, v312, v313, v314, v315, v316, v317, v318, v319, v320, v321, v322, v323, v324, v325, v326, v327, v328, v329, v330, v331, v332, v333], []⟩) (fun _ _ _ => False)) ⟨#[v0, .slice ae m ce, .slice ak l2 ck, v3, v4, v5, v6, v7, v8, v9, v10, v11, v12, .int .i64 (n : Int), v14, v15, v16, v17, v18, v19, v20, v21, v22, v23, v24, v25, v26, v27, .int .i64 (m : Int), .slice (some ⟨gpr, 0, none⟩) m m, .slice (some ⟨gsq, 0, none⟩) m m, .int .i64 0, v32, v33, v34, v35, v36, v37, v38, v39, v40, v41, v42, v43, v44, v45, v46, v47, v48, v49, v50, v51, v52, v53, v54, v55, v56, v57, v58, v59, v60, v61, v62, v63, v64, v65, v66, v67, v68, v69, v70, v71, v72, v73, v74, v75, v76, v77, v78, v79, v80, v81, v82, v83, v84, v85, v86, v87, v88, v89, v90, v91, v92, v93, v94, v95, v96, v97, v98, v99, v100, v101, v102, v103, v104, v105, v106, v107, v108, v109, v110, v111, v112, v113, v114, v115, v116, v117, v118, v119, v120, v121, v122, v123, v124, v125, v126, v127, v128, v129, v130, v131, v132, v133, v134, v135, v136, v137, v138, v139, v140, v141, v142, v143, v144, v145, v146, v147, v148, v149, v150, v151, v152, v153, v154, v155, v156, v157, v158, v159, v160, v161, v162, v163, v164, v165, v166, v167, v168, v169, v170, v171, v172, v173, v174, v175, v176, v177, v178, v179, v180, v181, v182, v183, v184, v185, v186, v187, v188, v189, v190, v191, v192, v193, v194, v195, v196, v197, v198, v199, v200, v201, v202, v203, v204, v205, v206, v207, v208, v209, v210, v211, v212, v213, v214, v215, v216, v217, v218, v219, v220, v221, v222, v223, v224, v225, v226, v227, v228, v229, v230, v231, v232, v233, v234, v235, v236, v237, v238, v239, v240, v241, v242, v243, v244, v245, v246, v247, v248, v249, v250, v251, v252, v253, v254, v255, v256, v257, v258, v259, v260, v261, v262, v263, v264, v265, v266, v267, v268, v269, v270, v271, v272, v273, v274, v275, v276, v277, v278, v279, v280, v281, v282, v283, v284, v285, v286, v287, v288, v289, v290, v291, v292, v293, v294, v295, v296, v297, v298, v299, v300, v301, v302, v303, v304, v305, v306, v307, v308, v309, v310, v311, v312, v313, v314, v315, v316, v317, v318, v319, v320, v321, v322, v323, v324, v325, v326, v327, v328, v329, v330, v331, v332, v333], []⟩ W := by
  conv => arg 2; whnf
  have HEP := Hid.intro hep
  have HEK := Hid.intro hek
  have HE := Hid.intro he
  have HK := Hid.intro hk
  have hne : gpr ≠ gsq := fun e => by
    obtain ⟨cs, hb, _⟩ := hp
    obtain ⟨cs', hb', _⟩ := hs
    subst e
    rw [hb] at hb'
    simp at hb'
  clear hep hek he hk
  go_wp2_with fail
  go_loopw [31] (fun vi wr => ∃ i : Nat, i ≤ m ∧ vi = .int .i64 i ∧ Blk wr gpr 21 m (fun j => if j < i then .int .i32 ((ep j : Int) % (n : Int)) else .int .i32 0) ∧ Blk wr gsq 24 m (fun j => if j < i then .int .u64 (sqAt l2 ek j) else .int .u64 0) ∧ Wid (fun b => b ≠ gpr ∧ b ≠ gsq) W wr) (fun vi _ => m - (intOf vi).toNat)
  case atStart => exact ⟨0, by omega, rfl, hp.congr (fun i hi => by rw [if_neg (by omega)]), hs.congr (fun i hi => by rw [if_neg (by omega)]), Wid.refl _ _⟩
  case round =>
    obtain ⟨i, hi, rfl, hB, hC, hW⟩ := hrel
    clear hp hs
    by_cases hlt : i < m
    · obtain ⟨g, o, rfl, hg1, hg2, hci⟩ := HE.out (by omega)
      have hec := hW.cell (a := ⟨g, o + i, none⟩) ⟨hg1, hg2⟩ (hci i hlt)
      have hpc := hB.cell (i := i) hlt
      have hpf := hB.free i
      have hb := HEP.out i
      have hB2 := (Blk.upto hB).other (a := ⟨gsq, i, none⟩) hne (.int .u64 (sqAt l2 ek i))
      have hC1 := hC.other (a := ⟨gpr, i, none⟩) (fun e => hne e.symm) (.int .i32 ((ep i : Int) % (n : Int)))
      have hsc := hC.cell (i := i) hlt
      have hsf := hC.free i
      have hC2 := Blk.upto hC1
      have hW2 := hW.trans ((Wid.of_set wr ⟨gpr, i, none⟩ (.int .i32 ((ep i : Int) % (n : Int))) (fun k hk => hk.1)).trans (Wid.of_set _ ⟨gsq, i, none⟩ (.int .u64 (sqAt l2 ek i)) (fun k hk => hk.2)))
      have HB2 := Hid.intro hB2
      have HC2 := Hid.intro hC2
      have HW2 := Hid.intro hW2
      clear hB2 hC2 hW2 hB hC hC1 hci
      have hmi : ep i % n < n := Nat.mod_lt _ (by omega)
      have hnn : ¬ ((n : Int) = 0) := by omega
      by_cases hl0 : 0 < l2
      · obtain ⟨g', o', rfl, hg1', hg2', hck⟩ := HK.out hl0
        have hml := Nat.mod_lt i hl0
        have hkc := hW.cell (a := ⟨g', o' + i % l2, none⟩) ⟨hg1', hg2'⟩ (hck _ hml)
        have hb' := HEK.out (i % l2)
        have hsq : sqAt l2 ek i = (ek (i % l2) : Int) % 8 + 1 := by unfold sqAt; rw [if_neg (by omega)]
        rw [hsq] at HB2 HC2 HW2
        have hll : ¬ ((l2 : Int) = 0) := by omega
        clear hck hW
        go_wp2
        go_roundw
        case rel => exact ⟨i + 1, by omega, by go_num, HB2.out, HC2.out, HW2.out⟩
        case measure => simp [intOf]; omega
      · obtain rfl : l2 = 0 := by omega
        have hsq : sqAt 0 ek i = 1 := rfl
        rw [hsq] at HB2 HC2 HW2
        clear hW
        go_wp2
        go_roundw
        case rel => exact ⟨i + 1, by omega, by go_num, HB2.out, HC2.out, HW2.out⟩
        case measure => simp [intOf]; omega
    · obtain rfl : i = m := by omega
      have hB2 : Blk wr gpr 21 i (fun i => .int .i32 ((ep i : Int) % (n : Int))) := hB.congr fun j hj => by rw [if_pos hj]
      have hC2 : Blk wr gsq 24 i (fun i => .int .u64 (sqAt l2 ek i)) := hC.congr fun j hj => by rw [if_pos hj]
      have HB2 := Hid.intro hB2
      have HC2 := Hid.intro hC2
      have HW2 := Hid.intro hW
      clear hB2 hB hW hC hC2
      go_wp2
      exact ⟨_, _, _, _, _, _, _, _, _, _, _, _, _, _, _, _, _, _, _, _, _, _, _, _, _, _, _, _, _, _, _, _, _, _, _, _, _, _, ⟨HB2.out, HC2.out, HW2.out⟩, rfl⟩

end Go.Proofs.YbulkcjpqFmt
