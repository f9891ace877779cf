import Derived.Test.YbulkcjpqFmtLawM
import Derived.Test.YbulkcjpqFmtLawJ
import Derived.Test.YbulkcjpqFmtLawK
namespace Go.Proofs.YbulkcjpqFmt
open Go.ChangeShapes Go.WideShapes Go.ChangeAt Go.RowKit Go.Deep
set_option linter.unusedVariables false
set_option linter.unusedSimpArgs false

theorem Laid.mono {w W : World} {gk gh gs gpf gpr gsq ge pb sb vb gv cap n m lc : Nat} {E M PF : Nat → Int} {NV CV kcf : Nat → Value} {l2 : Nat} {ep ek : Nat → Nat} {W' : World} (h : Laid w W gk gh gs gpf gpr gsq ge pb sb vb gv cap n m lc E M PF NV CV kcf l2 ep ek) (hB : Below W.heap.size W W') : Laid w W' gk gh gs gpf gpr gsq ge pb sb vb gv cap n m lc E M PF NV CV kcf l2 ep ek :=
  ⟨h.bel.trans (hB.mono h.bel.size), h.hS.same (hB.block _ h.hS.lt), h.hH.same (hB.block _ h.hH.lt), h.hK.same (hB.block _ h.hK.lt), h.hKc, ownsRow_below h.hV hB, fun x hx => (h.hk x hx).wid (Wid.of_below hB (fun _ => True)) (fun _ _ _ _ _ => trivial), h.hF.same (hB.block _ h.hF.lt), h.hPr.same (hB.block _ h.hPr.lt), h.hSq.same (hB.block _ h.hSq.lt),
   (hB.block _ (lt_of_block h.he)).trans h.he, (hB.block _ (lt_of_block h.hpb)).trans h.hpb, (hB.block _ (lt_of_block h.hsb)).trans h.hsb, (hB.block _ (lt_of_block h.hvb)).trans h.hvb⟩

set_option maxHeartbeats 4000000 in
set_option maxRecDepth 20000 in
theorem law_blk11 (v0 v1 v2 v3 v4 v5 v6 v7 v8 v9 v10 v11 v12 v13 v16 v17 v18 v19 v20 v21 v22 v23 v24 v25 v27 v28 v31 v32 v33 v36 v37 v38 v39 v40 v41 v42 v43 v44 v45 v46 v47 v48 v49 v50 v51 v52 v53 v54 v55 v56 v57 v58 v59 v60 v61 v62 v63 v64 v65 v66 v67 v68 v69 v70 v71 v72 v73 v74 v75 v76 v77 v78 v79 v80 v81 v82 v83 v84 v85 v86 v87 v88 v89 v90 v91 v92 v93 v94 v95 v96 v97 v98 v99 v100 v101 v102 v103 v104 v105 v106 v107 v108 v109 v110 v111 v112 v113 v114 v115 v116 v117 v118 v119 v120 v121 v122 v123 v124 v125 v126 v127 v128 v129 v130 v131 v132 v133 v134 v135 v136 v137 v138 v139 v140 v141 v142 v143 v144 v145 v146 v147 v148 v149 v150 v151 v152 v153 v154 v155 v156 v157 v158 v159 v160 v161 v162 v163 v164 v165 v166 v167 v168 v169 v170 v171 v172 v173 v174 v175 v176 v177 v178 v179 v180 v181 v182 v183 v184 v185 v186 v187 v188 v189 v190 v191 v192 v193 v194 v195 v196 v197 v198 v199 v200 v201 v202 v203 v204 v205 v206 v207 v208 v209 v210 v211 v212 v213 v214 v215 v216 v217 v218 v219 v220 v221 v222 v223 v224 v225 v226 v227 v228 v229 v230 v231 v232 v233 v234 v235 v236 v237 v238 v239 v240 v241 v242 v243 v244 v245 v246 v247 v248 v249 v250 v251 v252 v253 v254 v255 v256 v257 v258 v259 v260 v261 v262 v263 v264 v265 v266 v267 v268 v269 v270 v271 v272 v273 v274 v275 v276 v277 v278 v279 v280 v281 v282 v283 v284 v285 v286 v287 v288 v289 v290 v291 v292 v293 v294 v295 v296 v297 v298 v299 v300 v301 v302 v303 v304 v305 v306 v307 v308 v309 v310 v311 v312 v313 v314 v315 v316 v317 v318 v319 v320 v321 v322 v323 v324 v325 v326 v327 v328 v329 v330 v331 v332 v333 : Value) (w W : World) (gk gh gs gpf gpr gsq ge pb sb vb gv cap n m lc : Nat) (E M PF : Nat → Int) (NV CV kcf : Nat → Value) (l2 : Nat) (ep ek : Nat → Nat) (i : Nat) (hi : i < m) (hT : (mkT vb gs gv cap gpf ge pb gpr sb gsq n m M PF NV CV l2 ep ek).Ok) (hL : Laid w W gk gh gs gpf gpr gsq ge pb sb vb gv cap n m lc E M PF NV CV kcf l2 ep ek) (hPF : ∀ i, 0 ≤ PF i ∧ PF i ≤ 255) :
    Code.wp Ybaf.prog (blkIn Ybaf.f3 11) (Exit.then (fun a' W' => ∃ (u12 u36 u37 u38 u39 u40 u41 u225 u226 u227 u228 u229 u230 u231 u232 u233 u234 u235 u236 u237 u238 u239 u240 u241 u242 u243 u244 u245 u246 u247 u248 u249 u250 u251 u252 u253 u254 u255 u256 u257 u258 u259 u260 u261 u262 u263 u264 u265 u266 u267 u268 u269 u270 u271 u272 u273 u274 u275 u276 u277 u278 u279 u280 u281 u282 u283 u284 u285 u286 u287 u288 u289 u290 u291 u292 : Value), Below W.heap.size W W' ∧ a' = ⟨#[v0, v1, v2, v3, v4, v5, v6, v7, v8, v9, v10, v11, u12, v13, .pointer (some ⟨gk, 0, none⟩), .pointer (some ⟨gh, 0, none⟩), v16, v17, v18, v19, v20, v21, v22, v23, v24, v25, .slice (some ⟨gpf, 0, none⟩) n n, v27, v28, .slice (some ⟨gpr, 0, none⟩) m m, .slice (some ⟨gsq, 0, none⟩) m m, v31, v32, v33, .pointer (some ⟨vb, 0, none⟩), .int .i64 (i : Int), u36, u37, u38, u39, u40, u41, v42, v43, v44, v45, v46, v47, v48, v49, v50, v51, v52, v53, v54, v55, v56, v57, v58, v59, v60, v61, v62, v63, v64, v65, v66, v67, v68, v69, v70, v71, v72, v73, v74, v75, v76, v77, v78, v79, v80, v81, v82, v83, v84, v85, v86, v87, v88, v89, v90, v91, v92, v93, v94, v95, v96, v97, v98, v99, v100, v101, v102, v103, v104, v105, v106, v107, v108, v109, v110, v111, v112, v113, v114, v115, v116, v117, v118, v119, v120, v121, v122, v123, v124, v125, v126, v127, v128, v129, v130, v131, v132, v133, v134, v135, v136, v137, v138, v139, v140, v141, v142, v143, v144, v145, v146, v147, v148, v149, v150, v151, v152, v153, v154, v155, v156, v157, v158, v159, v160, v161, v162, v163, v164, v165, v166, v167, v168, v169, v170, v171, v172, v173, v174, v175, v176, v177, v178, v179, v180, v181, v182, v183, v184, v185, v186, v187, v188, v189, v190, v191, v192, v193, v194, v195, v196, v197, v198, v199, v200, v201, v202, v203, v204, v205, v206, v207, v208, v209, v210, v211, v212, v213, v214, v215, v216, v217, v218, v219, v220, v221, v222, v223, v224, u225, u226, u227, u228, u229, u230, u231, u232, u233, u234, u235, u236, u237, u238, u239, u240, u241, u242, u243, u244, u245, u246, u247, u248, u249, u250, u251, u252, u253, u254, u255, u256, u257, u258, u259, u260, u261, u262, u263, u264, u265, u266, u267, u268, u269, u270, u271, u272, u273, u274, u275, u276, u277, u278, u279, u280, u281, u282, u283, u284, u285, u286, u287, u288, u289, u290, u291, u292, v293, v294, v295, v296, v297, v298, v299, v300, v301, v302, v303, v304, v305, v306, v307, v308, v309, v310, v311, v312, v313, v314, v315, v316, v317, v318, v319, v320, v321, v322, v323, v324, v325, v326, v327, v328, v329, v330, v331, v332, v333], []⟩) (fun _ _ _ => False)) ⟨#[v0, v1, v2, v3, v4, v5, v6, v7, v8, v9, v10, v11, v12, v13, .pointer (some ⟨gk, 0, none⟩), .pointer (some ⟨gh, 0, none⟩), v16, v17, v18, v19, v20, v21, v22, v23, v24, v25, .slice (some ⟨gpf, 0, none⟩) n n, v27, v28, .slice (some ⟨gpr, 0, none⟩) m m, .slice (some ⟨gsq, 0, none⟩) m m, v31, v32, v33, .pointer (some ⟨vb, 0, none⟩), .int .i64 (i : Int), v36, v37, v38, v39, v40, v41, v42, v43, v44, v45, v46, v47, v48, v49, v50, v51, v52, v53, v54, v55, v56, v57, v58, v59, v60, v61, v62, v63, v64, v65, v66, v67, v68, v69, v70, v71, v72, v73, v74, v75, v76, v77, v78, v79, v80, v81, v82, v83, v84, v85, v86, v87, v88, v89, v90, v91, v92, v93, v94, v95, v96, v97, v98, v99, v100, v101, v102, v103, v104, v105, v106, v107, v108, v109, v110, v111, v112, v113, v114, v115, v116, v117, v118, v119, v120, v121, v122, v123, v124, v125, v126, v127, v128, v129, v130, v131, v132, v133, v134, v135, v136, v137, v138, v139, v140, v141, v142, v143, v144, v145, v146, v147, v148, v149, v150, v151, v152, v153, v154, v155, v156, v157, v158, v159, v160, v161, v162, v163, v164, v165, v166, v167, v168, v169, v170, v171, v172, v173, v174, v175, v176, v177, v178, v179, v180, v181, v182, v183, v184, v185, v186, v187, v188, v189, v190, v191, v192, v193, v194, v195, v196, v197, v198, v199, v200, v201, v202, v203, v204, v205, v206, v207, v208, v209, v210, v211, v212, v213, v214, v215, v216, v217, v218, v219, v220, v221, v222, v223, v224, v225, v226, v227, v228, v229, v230, v231, v232, v233, v234, v235, v236, v237, v238, v239, v240, v241, v242, v243, v244, v245, v246, v247, v248, v249, v250, v251, v252, v253, v254, v255, v256, v257, v258, v259, v260, v261, v262, v263, v264, v265, v266, v267, v268, v269, v270, v271, v272, v273, v274, v275, v276, v277, v278, v279, v280, v281, v282, v283, v284, v285, v286, v287, v288, v289, v290, v291, v292, v293, v294, v295, v296, v297, v298, v299, v300, v301, v302, v303, v304, v305, v306, v307, v308, v309, v310, v311, v312, v313, v314, v315, v316, v317, v318, v319, v320, v321, v322, v323, v324, v325, v326, v327, v328, v329, v330, v331, v332, v333], []⟩ W := by
  conv => arg 2; whnf
  have hn1 : 1 ≤ n := hT.n1
  have hn3 : n ≤ 3 := hT.n3
  have hm : m ≤ 1024 := hT.m1
  have hpn : ep i % n < n := Nat.mod_lt _ (by omega)
  have hk7 : (mkT vb gs gv cap gpf ge pb gpr sb gsq n m M PF NV CV l2 ep ek).SQ i ≤ 7 := hT.SQ1 i hi
  have c1 := hL.hPr.cell (i := i) hi
  have c2 := hL.hSq.cell (i := i) hi
  have hsq : sqAt l2 ek i = ((mkT vb gs gv cap gpf ge pb gpr sb gsq n m M PF NV CV l2 ep ek).SQ i : Int) + 1 := by
    show sqAt l2 ek i = ((if l2 = 0 then 0 else ek (i % l2) % 8 : Nat) : Int) + 1
    unfold sqAt
    split <;> simp
  have hpi : ((ep i : Int) % (n : Int)) = ((ep i % n : Nat) : Int) := by simp
  rw [hsq] at c2
  rw [hpi] at c1
  have c3 := hL.hF.cell (i := ep i % n) hpn
  have hPb := hPF (ep i % n)
  have HL := Hid.intro hL
  have HT := Hid.intro hT
  clear hL hT hsq hpi hPF
  have HK : Hid ((mkT vb gs gv cap gpf ge pb gpr sb gsq n m M PF NV CV l2 ep ek).SQ i = (mkT vb gs gv cap gpf ge pb gpr sb gsq n m M PF NV CV l2 ep ek).SQ i) := rfl
  generalize hk : (mkT vb gs gv cap gpf ge pb gpr sb gsq n m M PF NV CV l2 ep ek).SQ i = k at c2 hk7 HK
  have HKK := Hid.intro hk
  clear hk
  generalize hp : ep i % n = p at c1 c3 hpn hPb
  have HP := Hid.intro hp
  clear hp
  have hX : Blk (W.alloc (.cells #[.int .u64 0, .int .u64 0, .int .u64 0] 25)) W.heap.size 25 3 (fun _ => .int .u64 0) := ⟨_, heap_alloc_new W _, fun q hq => by
    rcases three hq with rfl | rfl | rfl <;> rfl⟩
  have hBX : Below W.heap.size W (W.alloc (.cells #[.int .u64 0, .int .u64 0, .int .u64 0] 25)) := (Below.refl _ W).alloc (Nat.le_refl _) _
  have hgx : W.heap.size ≤ W.heap.size := Nat.le_refl _
  go_upto_region 57 with fail
  have hgx : ∃ gx, gx = W.heap.size := ⟨_, rfl⟩
  obtain ⟨gx, hgx⟩ := hgx
  rw [← hgx] at hX
  have hfr : Value.pointer (some ⟨W.heap.size, 0, none⟩) = .pointer (some ⟨gx, 0, none⟩) := by rw [hgx]
  rw [hfr]
  have hgx' : W.heap.size ≤ gx := by omega
  clear hfr hgx
  generalize W.alloc (.cells #[.int .u64 0, .int .u64 0, .int .u64 0] 25) = W1 at hX hBX ⊢
  have HL1 : Hid (Laid w W1 gk gh gs gpf gpr gsq ge pb sb vb gv cap n m lc E M PF NV CV kcf l2 ep ek) := HL.out.mono hBX
  have c3 := below_cells hBX _ _ c3
  clear c1 c2
  by_cases hperf : (k : Int) < PF p % 9
  · go_upto_block 12 with fail
    refine wp_then (law_blk12 _ _ _ _ _ _ _ _ _ _ _ _ _ _ _ _ _ _ _ _ _ _ _ _ _ _ _ _ _ _ _ _ _ _ _ _ _ _ _ _ _ _ _ _ _ _ _ _ _ _ _ _ _ _ _ _ _ _ _ _ _ _ _ _ _ _ _ _ _ _ _ _ _ _ _ _ _ _ _ _ _ _ _ _ _ _ _ _ _ _ _ _ _ _ _ _ _ _ _ _ _ _ _ _ _ _ _ _ _ _ _ _ _ _ _ _ _ _ _ _ _ _ _ _ _ _ _ _ _ _ _ _ _ _ _ _ _ _ _ _ _ _ _ _ _ _ _ _ _ _ _ _ _ _ _ _ _ _ _ _ _ _ _ _ _ _ _ _ _ _ _ _ _ _ _ _ _ _ _ _ _ _ _ _ _ _ _ _ _ _ _ _ _ _ _ _ _ _ _ _ _ _ _ _ _ _ _ _ _ _ _ _ _ _ _ _ _ _ _ _ _ _ _ _ _ _ _ _ _ _ _ _ _ _ _ _ _ _ _ _ _ _ _ _ _ _ _ _ _ _ _ _ _ _ _ _ _ _ _ _ _ _ _ _ _ _ _ _ _ _ _ _ _ _ _ _ _ _ _ _ _ _ _ _ _ _ _ _ _ _ _ _ _ _ _ _ _ _ _ _ _ _ _ _ _ _ _ _ _ _ _ _ _ _ _ _ _ _ _ _ _ _ _ _ _ _ _ _ _ _ _ W1 gh p k (fun i => decide (i < n * 8) && HH M i) (by omega) (by omega) HL1.out.hH) ?_
    intro a' W1' hq
    obtain ⟨t, hq⟩ := hq
    obtain ⟨u244, hq⟩ := hq
    obtain ⟨u245, hq⟩ := hq
    obtain ⟨u246, hq⟩ := hq
    obtain ⟨u247, hq⟩ := hq
    obtain ⟨u248, hq⟩ := hq
    obtain ⟨u249, hq⟩ := hq
    obtain ⟨u250, hq⟩ := hq
    obtain ⟨u251, hq⟩ := hq
    obtain ⟨u252, hq⟩ := hq
    obtain ⟨u253, hq⟩ := hq
    obtain ⟨u254, hq⟩ := hq
    obtain ⟨u255, hq⟩ := hq
    obtain ⟨⟨rfl, htk, h0, hs⟩, rfl⟩ := hq
    have hht : HH M (p * 8 + t) = true := by
      rcases h0 with rfl | h0
      · rw [show p * 8 + 0 = 8 * p by omega]; exact HH_first M p
      · simp at h0; exact h0.2
    have hss : ∀ s, t < s → s ≤ k → HH M (p * 8 + s) = false := fun s s1 s2 => by
      have := hs s s1 s2
      simp at this
      exact this (by omega)
    have kc : ∀ q, q < 3 → W1'.cell? ⟨gk, p * 24 + t * 3 + q, none⟩ = some (.int .u64 (CC lc E (p * 8 + t) q)) := fun q hq => by
      have h1 := HL1.out.hK.cell (i := p * 24 + t * 3 + q) (by omega)
      have h2 := HL1.out.hKc (p * 8 + t) q (by omega) hht hq
      rw [show (p * 8 + t) * 3 + q = p * 24 + t * 3 + q by omega] at h2
      rw [h1, h2]
    have k0 := kc 0 (by omega)
    have k1 := kc 1 (by omega)
    have k2 := kc 2 (by omega)
    simp only [Nat.add_zero] at k0
    have x0 := hX.cell (i := 0) (by omega)
    have x1 := hX.cell (i := 1) (by omega)
    have x2 := hX.cell (i := 2) (by omega)
    have f0 := hX.free 0
    have f1 := hX.free 1
    have f2 := hX.free 2
    have HSS := Hid.intro hss
    have HT0 := Hid.intro hht
    have HX := Hid.intro hX
    have HBX := Hid.intro hBX
    clear hss hht kc h0 hs c3 hX hBX
    have HPERF := Hid.intro hperf
    clear hperf
    go_upto_region 62 with fail
    have hX2 : Blk (((W1'.setCell ⟨gx, 0, none⟩ (.int .u64 (CC lc E (p * 8 + t) 0))).setCell ⟨gx, 1, none⟩ (.int .u64 (CC lc E (p * 8 + t) 1))).setCell ⟨gx, 2, none⟩ (.int .u64 (CC lc E (p * 8 + t) 2))) gx 25 3 (fun q => .int .u64 (CC lc E (p * 8 + t) q)) := (((HX.out.set 0 _).set 1 _).set 2 _).congr (fun q hq => by rcases three hq with rfl | rfl | rfl <;> rfl)
    have hBX2 : Below W.heap.size W (((W1'.setCell ⟨gx, 0, none⟩ (.int .u64 (CC lc E (p * 8 + t) 0))).setCell ⟨gx, 1, none⟩ (.int .u64 (CC lc E (p * 8 + t) 1))).setCell ⟨gx, 2, none⟩ (.int .u64 (CC lc E (p * 8 + t) 2))) := ((HBX.out.setCell (p := ⟨gx, 0, none⟩) hgx' _).setCell (p := ⟨gx, 1, none⟩) hgx' _).setCell (p := ⟨gx, 2, none⟩) hgx' _
    generalize (((W1'.setCell ⟨gx, 0, none⟩ (.int .u64 (CC lc E (p * 8 + t) 0))).setCell ⟨gx, 1, none⟩ (.int .u64 (CC lc E (p * 8 + t) 1))).setCell ⟨gx, 2, none⟩ (.int .u64 (CC lc E (p * 8 + t) 2))) = W3 at hX2 hBX2 ⊢
    clear k0 k1 k2 x0 x1 x2 f0 f1 f2 HX HBX HL1
    have xp := hX2.cell (i := p) (by omega)
    have fp := hX2.free p
    by_cases e : t = k
    · have hX : Blk W3 gx 25 3 (fun q => .int .u64 (expC (CC lc E) p k t q)) := hX2.congr (fun q hq => by unfold expC; rw [if_neg (fun h => h.2.1 e)])
      have hBX := hBX2
      have HL1 : Hid (Laid w W3 gk gh gs gpf gpr gsq ge pb sb vb gv cap n m lc E M PF NV CV kcf l2 ep ek) := HL.out.mono hBX
      have hte : ((t : Int) == (k : Int)) = true := by simp; omega
      clear hX2 hBX2
      go_wp2_with fail
      refine (stamp_any (mkT vb gs gv cap gpf ge pb gpr sb gsq n m M PF NV CV l2 ep ek) HT.out (fun j => CC lc E (xAt M n j)) i hi _ HL1.out.In HL1.out.Kept).mono ?_
      rintro e W2 ⟨v, c, rfl, hst, hsays, hB2⟩
      have hcq : ∀ q, q < 3 → c q = expC (CC lc E) p k t q := fun q hq => (by have h9 := says_kept (t := t) hn1 hsays (by rw [HKK.out, HP.out]; exact HPERF.out) (by rw [HKK.out]; omega) (by rw [HKK.out]; omega) (.inr (by rw [HP.out]; exact HT0.out)) (by rw [HP.out, HKK.out]; exact HSS.out) q; rw [HKK.out, HP.out] at h9; exact h9)
      have HCQ := Hid.intro hcq
      have HST := Hid.intro hst
      obtain ⟨nv, cv, ks, Fs, rfl, hs', ⟨an', cn', rfl, hn'⟩, ⟨ac', cc', rfl, hc'⟩⟩ := hst
      have HB2 := Hid.intro hB2
      clear hs' hn' hc' hsays hcq hB2
      go_upto_block 14 with fail
      refine wp_then (law_blk14 _ _ _ _ _ _ _ _ _ _ _ _ _ _ _ _ _ _ _ _ _ _ _ _ _ _ _ _ _ _ _ _ _ _ _ _ _ _ _ _ _ _ _ _ _ _ _ _ _ _ _ _ _ _ _ _ _ _ _ _ _ _ _ _ _ _ _ _ _ _ _ _ _ _ _ _ _ _ _ _ _ _ _ _ _ _ _ _ _ _ _ _ _ _ _ _ _ _ _ _ _ _ _ _ _ _ _ _ _ _ _ _ _ _ _ _ _ _ _ _ _ _ _ _ _ _ _ _ _ _ _ _ _ _ _ _ _ _ _ _ _ _ _ _ _ _ _ _ _ _ _ _ _ _ _ _ _ _ _ _ _ _ _ _ _ _ _ _ _ _ _ _ _ _ _ _ _ _ _ _ _ _ _ _ _ _ _ _ _ _ _ _ _ _ _ _ _ _ _ _ _ _ _ _ _ _ _ _ _ _ _ _ _ _ _ _ _ _ _ _ _ _ _ _ _ _ _ _ _ _ _ _ _ _ _ _ _ _ _ _ _ _ _ _ _ _ _ _ _ _ _ _ _ _ _ _ _ _ _ _ _ _ _ _ _ _ _ _ _ _ _ _ _ _ _ _ _ _ _ _ _ _ _ _ _ _ _ _ _ _ _ _ _ _ _ _ _ _ _ _ _ _ _ _ _ _ _ _ _ _ _ _ _ _ _ _ _ _ _ _ _ _ _ _ _ _ _ _ _ _ _ _ gx W2.heap.size ks cn' cc' an' ac' c (fun q hq => ?_) (two_cell0 (heap_alloc_new _ _)) (two_cell1 (heap_alloc_new _ _)) (HST.out.mono (alloc_cells _ _))) ?_
      · rw [HCQ.out q hq]
        exact alloc_cells _ _ _ _ (below_cells HB2.out _ _ (hX.cell hq))
      intro a' W4 hq
      obtain ⟨u12, hq⟩ := hq
      obtain ⟨u41, hq⟩ := hq
      obtain ⟨u281, hq⟩ := hq
      obtain ⟨u282, hq⟩ := hq
      obtain ⟨u283, hq⟩ := hq
      obtain ⟨u284, hq⟩ := hq
      obtain ⟨u285, hq⟩ := hq
      obtain ⟨u286, hq⟩ := hq
      obtain ⟨u287, hq⟩ := hq
      obtain ⟨u288, hq⟩ := hq
      obtain ⟨u289, hq⟩ := hq
      obtain ⟨u290, hq⟩ := hq
      obtain ⟨u291, hq⟩ := hq
      obtain ⟨u292, hq⟩ := hq
      obtain ⟨hB4, rfl⟩ := hq
      have hB5 : Below W.heap.size W W4 := hBX.trans ((HB2.out.mono (by have := hBX.size; omega)).trans (((Below.refl _ W2).alloc (Nat.le_refl _) _).mono (by have := hBX.size; have := HB2.out.size; omega) |>.trans (hB4.mono (by have := hBX.size; have := HB2.out.size; simp; omega))))
      go_wp2
      exact ⟨_, _, _, _, _, _, _, _, _, _, _, _, _, _, _, _, _, _, _, _, _, _, _, _, _, _, _, _, _, _, _, _, _, _, _, _, _, _, _, _, _, _, _, _, _, _, _, _, _, _, _, _, _, _, _, _, _, _, _, _, _, _, _, _, _, _, _, _, _, _, _, _, _, _, _, hB5, rfl⟩
    · have hte : ((t : Int) == (k : Int)) = false := by simp; omega
      by_cases e2 : CC lc E (p * 8 + t) p < (k : Int) + 1
      · have hX : Blk (W3.setCell ⟨gx, p, none⟩ (.int .u64 ((k : Int) + 1))) gx 25 3 (fun q => .int .u64 (expC (CC lc E) p k t q)) := (hX2.set p _).congr (fun q hq => by
          unfold expC
          by_cases eq : q = p
          · rw [if_pos eq, if_pos ⟨eq, e, e2⟩]
          · rw [if_neg eq, if_neg (fun h => eq h.1)])
        have hBX := hBX2.setCell (p := ⟨gx, p, none⟩) hgx' (.int .u64 ((k : Int) + 1))
        have HL1 : Hid (Laid w (W3.setCell ⟨gx, p, none⟩ (.int .u64 ((k : Int) + 1))) gk gh gs gpf gpr gsq ge pb sb vb gv cap n m lc E M PF NV CV kcf l2 ep ek) := HL.out.mono hBX
        clear hX2 hBX2
        go_wp2_with fail
        refine (stamp_any (mkT vb gs gv cap gpf ge pb gpr sb gsq n m M PF NV CV l2 ep ek) HT.out (fun j => CC lc E (xAt M n j)) i hi _ HL1.out.In HL1.out.Kept).mono ?_
        rintro e W2 ⟨v, c, rfl, hst, hsays, hB2⟩
        have hcq : ∀ q, q < 3 → c q = expC (CC lc E) p k t q := fun q hq => (by have h9 := says_kept (t := t) hn1 hsays (by rw [HKK.out, HP.out]; exact HPERF.out) (by rw [HKK.out]; omega) (by rw [HKK.out]; omega) (.inr (by rw [HP.out]; exact HT0.out)) (by rw [HP.out, HKK.out]; exact HSS.out) q; rw [HKK.out, HP.out] at h9; exact h9)
        have HCQ := Hid.intro hcq
        have HST := Hid.intro hst
        obtain ⟨nv, cv, ks, Fs, rfl, hs', ⟨an', cn', rfl, hn'⟩, ⟨ac', cc', rfl, hc'⟩⟩ := hst
        have HB2 := Hid.intro hB2
        clear hs' hn' hc' hsays hcq hB2
        go_upto_block 14 with fail
        refine wp_then (law_blk14 _ _ _ _ _ _ _ _ _ _ _ _ _ _ _ _ _ _ _ _ _ _ _ _ _ _ _ _ _ _ _ _ _ _ _ _ _ _ _ _ _ _ _ _ _ _ _ _ _ _ _ _ _ _ _ _ _ _ _ _ _ _ _ _ _ _ _ _ _ _ _ _ _ _ _ _ _ _ _ _ _ _ _ _ _ _ _ _ _ _ _ _ _ _ _ _ _ _ _ _ _ _ _ _ _ _ _ _ _ _ _ _ _ _ _ _ _ _ _ _ _ _ _ _ _ _ _ _ _ _ _ _ _ _ _ _ _ _ _ _ _ _ _ _ _ _ _ _ _ _ _ _ _ _ _ _ _ _ _ _ _ _ _ _ _ _ _ _ _ _ _ _ _ _ _ _ _ _ _ _ _ _ _ _ _ _ _ _ _ _ _ _ _ _ _ _ _ _ _ _ _ _ _ _ _ _ _ _ _ _ _ _ _ _ _ _ _ _ _ _ _ _ _ _ _ _ _ _ _ _ _ _ _ _ _ _ _ _ _ _ _ _ _ _ _ _ _ _ _ _ _ _ _ _ _ _ _ _ _ _ _ _ _ _ _ _ _ _ _ _ _ _ _ _ _ _ _ _ _ _ _ _ _ _ _ _ _ _ _ _ _ _ _ _ _ _ _ _ _ _ _ _ _ _ _ _ _ _ _ _ _ _ _ _ _ _ _ _ _ _ _ _ _ _ _ _ _ _ _ _ _ _ gx W2.heap.size ks cn' cc' an' ac' c (fun q hq => ?_) (two_cell0 (heap_alloc_new _ _)) (two_cell1 (heap_alloc_new _ _)) (HST.out.mono (alloc_cells _ _))) ?_
        · rw [HCQ.out q hq]
          exact alloc_cells _ _ _ _ (below_cells HB2.out _ _ (hX.cell hq))
        intro a' W4 hq
        obtain ⟨u12, hq⟩ := hq
        obtain ⟨u41, hq⟩ := hq
        obtain ⟨u281, hq⟩ := hq
        obtain ⟨u282, hq⟩ := hq
        obtain ⟨u283, hq⟩ := hq
        obtain ⟨u284, hq⟩ := hq
        obtain ⟨u285, hq⟩ := hq
        obtain ⟨u286, hq⟩ := hq
        obtain ⟨u287, hq⟩ := hq
        obtain ⟨u288, hq⟩ := hq
        obtain ⟨u289, hq⟩ := hq
        obtain ⟨u290, hq⟩ := hq
        obtain ⟨u291, hq⟩ := hq
        obtain ⟨u292, hq⟩ := hq
        obtain ⟨hB4, rfl⟩ := hq
        have hB5 : Below W.heap.size W W4 := hBX.trans ((HB2.out.mono (by have := hBX.size; omega)).trans (((Below.refl _ W2).alloc (Nat.le_refl _) _).mono (by have := hBX.size; have := HB2.out.size; omega) |>.trans (hB4.mono (by have := hBX.size; have := HB2.out.size; simp; omega))))
        go_wp2
        exact ⟨_, _, _, _, _, _, _, _, _, _, _, _, _, _, _, _, _, _, _, _, _, _, _, _, _, _, _, _, _, _, _, _, _, _, _, _, _, _, _, _, _, _, _, _, _, _, _, _, _, _, _, _, _, _, _, _, _, _, _, _, _, _, _, _, _, _, _, _, _, _, _, _, _, _, _, hB5, rfl⟩
      · have hX : Blk W3 gx 25 3 (fun q => .int .u64 (expC (CC lc E) p k t q)) := hX2.congr (fun q hq => by unfold expC; rw [if_neg (fun h => e2 h.2.2)])
        have hBX := hBX2
        have HL1 : Hid (Laid w W3 gk gh gs gpf gpr gsq ge pb sb vb gv cap n m lc E M PF NV CV kcf l2 ep ek) := HL.out.mono hBX
        clear hX2 hBX2
        go_wp2_with fail
        refine (stamp_any (mkT vb gs gv cap gpf ge pb gpr sb gsq n m M PF NV CV l2 ep ek) HT.out (fun j => CC lc E (xAt M n j)) i hi _ HL1.out.In HL1.out.Kept).mono ?_
        rintro e W2 ⟨v, c, rfl, hst, hsays, hB2⟩
        have hcq : ∀ q, q < 3 → c q = expC (CC lc E) p k t q := fun q hq => (by have h9 := says_kept (t := t) hn1 hsays (by rw [HKK.out, HP.out]; exact HPERF.out) (by rw [HKK.out]; omega) (by rw [HKK.out]; omega) (.inr (by rw [HP.out]; exact HT0.out)) (by rw [HP.out, HKK.out]; exact HSS.out) q; rw [HKK.out, HP.out] at h9; exact h9)
        have HCQ := Hid.intro hcq
        have HST := Hid.intro hst
        obtain ⟨nv, cv, ks, Fs, rfl, hs', ⟨an', cn', rfl, hn'⟩, ⟨ac', cc', rfl, hc'⟩⟩ := hst
        have HB2 := Hid.intro hB2
        clear hs' hn' hc' hsays hcq hB2
        go_upto_block 14 with fail
        refine wp_then (law_blk14 _ _ _ _ _ _ _ _ _ _ _ _ _ _ _ _ _ _ _ _ _ _ _ _ _ _ _ _ _ _ _ _ _ _ _ _ _ _ _ _ _ _ _ _ _ _ _ _ _ _ _ _ _ _ _ _ _ _ _ _ _ _ _ _ _ _ _ _ _ _ _ _ _ _ _ _ _ _ _ _ _ _ _ _ _ _ _ _ _ _ _ _ _ _ _ _ _ _ _ _ _ _ _ _ _ _ _ _ _ _ _ _ _ _ _ _ _ _ _ _ _ _ _ _ _ _ _ _ _ _ _ _ _ _ _ _ _ _ _ _ _ _ _ _ _ _ _ _ _ _ _ _ _ _ _ _ _ _ _ _ _ _ _ _ _ _ _ _ _ _ _ _ _ _ _ _ _ _ _ _ _ _ _ _ _ _ _ _ _ _ _ _ _ _ _ _ _ _ _ _ _ _ _ _ _ _ _ _ _ _ _ _ _ _ _ _ _ _ _ _ _ _ _ _ _ _ _ _ _ _ _ _ _ _ _ _ _ _ _ _ _ _ _ _ _ _ _ _ _ _ _ _ _ _ _ _ _ _ _ _ _ _ _ _ _ _ _ _ _ _ _ _ _ _ _ _ _ _ _ _ _ _ _ _ _ _ _ _ _ _ _ _ _ _ _ _ _ _ _ _ _ _ _ _ _ _ _ _ _ _ _ _ _ _ _ _ _ _ _ _ _ _ _ _ _ _ _ _ _ _ _ _ gx W2.heap.size ks cn' cc' an' ac' c (fun q hq => ?_) (two_cell0 (heap_alloc_new _ _)) (two_cell1 (heap_alloc_new _ _)) (HST.out.mono (alloc_cells _ _))) ?_
        · rw [HCQ.out q hq]
          exact alloc_cells _ _ _ _ (below_cells HB2.out _ _ (hX.cell hq))
        intro a' W4 hq
        obtain ⟨u12, hq⟩ := hq
        obtain ⟨u41, hq⟩ := hq
        obtain ⟨u281, hq⟩ := hq
        obtain ⟨u282, hq⟩ := hq
        obtain ⟨u283, hq⟩ := hq
        obtain ⟨u284, hq⟩ := hq
        obtain ⟨u285, hq⟩ := hq
        obtain ⟨u286, hq⟩ := hq
        obtain ⟨u287, hq⟩ := hq
        obtain ⟨u288, hq⟩ := hq
        obtain ⟨u289, hq⟩ := hq
        obtain ⟨u290, hq⟩ := hq
        obtain ⟨u291, hq⟩ := hq
        obtain ⟨u292, hq⟩ := hq
        obtain ⟨hB4, rfl⟩ := hq
        have hB5 : Below W.heap.size W W4 := hBX.trans ((HB2.out.mono (by have := hBX.size; omega)).trans (((Below.refl _ W2).alloc (Nat.le_refl _) _).mono (by have := hBX.size; have := HB2.out.size; omega) |>.trans (hB4.mono (by have := hBX.size; have := HB2.out.size; simp; omega))))
        go_wp2
        exact ⟨_, _, _, _, _, _, _, _, _, _, _, _, _, _, _, _, _, _, _, _, _, _, _, _, _, _, _, _, _, _, _, _, _, _, _, _, _, _, _, _, _, _, _, _, _, _, _, _, _, _, _, _, _, _, _, _, _, _, _, _, _, _, _, _, _, _, _, _, _, _, _, _, _, _, _, hB5, rfl⟩
  · go_wp2_with fail
    refine (stamp_any (mkT vb gs gv cap gpf ge pb gpr sb gsq n m M PF NV CV l2 ep ek) HT.out (fun j => CC lc E (xAt M n j)) i hi _ HL1.out.In HL1.out.Kept).mono ?_
    rintro e W2 ⟨v, c, rfl, hst, hsays, hB2⟩
    have hcq : ∀ q, q < 3 → c q = 0 := fun q hq => (by rw [says_zero hsays (by show ¬ (((mkT vb gs gv cap gpf ge pb gpr sb gsq n m M PF NV CV l2 ep ek).SQ i : Nat) : Int) < PF (ep i % n) % 9; rw [HKK.out, HP.out]; omega)])
    have HCQ := Hid.intro hcq
    have HST := Hid.intro hst
    obtain ⟨nv, cv, ks, Fs, rfl, hs', ⟨an', cn', rfl, hn'⟩, ⟨ac', cc', rfl, hc'⟩⟩ := hst
    have HB2 := Hid.intro hB2
    clear hs' hn' hc' hsays hcq hB2
    go_upto_block 14 with fail
    refine wp_then (law_blk14 _ _ _ _ _ _ _ _ _ _ _ _ _ _ _ _ _ _ _ _ _ _ _ _ _ _ _ _ _ _ _ _ _ _ _ _ _ _ _ _ _ _ _ _ _ _ _ _ _ _ _ _ _ _ _ _ _ _ _ _ _ _ _ _ _ _ _ _ _ _ _ _ _ _ _ _ _ _ _ _ _ _ _ _ _ _ _ _ _ _ _ _ _ _ _ _ _ _ _ _ _ _ _ _ _ _ _ _ _ _ _ _ _ _ _ _ _ _ _ _ _ _ _ _ _ _ _ _ _ _ _ _ _ _ _ _ _ _ _ _ _ _ _ _ _ _ _ _ _ _ _ _ _ _ _ _ _ _ _ _ _ _ _ _ _ _ _ _ _ _ _ _ _ _ _ _ _ _ _ _ _ _ _ _ _ _ _ _ _ _ _ _ _ _ _ _ _ _ _ _ _ _ _ _ _ _ _ _ _ _ _ _ _ _ _ _ _ _ _ _ _ _ _ _ _ _ _ _ _ _ _ _ _ _ _ _ _ _ _ _ _ _ _ _ _ _ _ _ _ _ _ _ _ _ _ _ _ _ _ _ _ _ _ _ _ _ _ _ _ _ _ _ _ _ _ _ _ _ _ _ _ _ _ _ _ _ _ _ _ _ _ _ _ _ _ _ _ _ _ _ _ _ _ _ _ _ _ _ _ _ _ _ _ _ _ _ _ _ _ _ _ _ _ _ _ _ _ _ _ _ _ _ gx W2.heap.size ks cn' cc' an' ac' c (fun q hq => ?_) (two_cell0 (heap_alloc_new _ _)) (two_cell1 (heap_alloc_new _ _)) (HST.out.mono (alloc_cells _ _))) ?_
    · rw [HCQ.out q hq]
      exact alloc_cells _ _ _ _ (below_cells HB2.out _ _ (hX.cell hq))
    intro a' W4 hq
    obtain ⟨u12, hq⟩ := hq
    obtain ⟨u41, hq⟩ := hq
    obtain ⟨u281, hq⟩ := hq
    obtain ⟨u282, hq⟩ := hq
    obtain ⟨u283, hq⟩ := hq
    obtain ⟨u284, hq⟩ := hq
    obtain ⟨u285, hq⟩ := hq
    obtain ⟨u286, hq⟩ := hq
    obtain ⟨u287, hq⟩ := hq
    obtain ⟨u288, hq⟩ := hq
    obtain ⟨u289, hq⟩ := hq
    obtain ⟨u290, hq⟩ := hq
    obtain ⟨u291, hq⟩ := hq
    obtain ⟨u292, hq⟩ := hq
    obtain ⟨hB4, rfl⟩ := hq
    have hB5 : Below W.heap.size W W4 := hBX.trans ((HB2.out.mono (by have := hBX.size; omega)).trans (((Below.refl _ W2).alloc (Nat.le_refl _) _).mono (by have := hBX.size; have := HB2.out.size; omega) |>.trans (hB4.mono (by have := hBX.size; have := HB2.out.size; simp; omega))))
    go_wp2
    exact ⟨_, _, _, _, _, _, _, _, _, _, _, _, _, _, _, _, _, _, _, _, _, _, _, _, _, _, _, _, _, _, _, _, _, _, _, _, _, _, _, _, _, _, _, _, _, _, _, _, _, _, _, _, _, _, _, _, _, _, _, _, _, _, _, _, _, _, _, _, _, _, _, _, _, _, _, hB5, rfl⟩

end Go.Proofs.YbulkcjpqFmt
