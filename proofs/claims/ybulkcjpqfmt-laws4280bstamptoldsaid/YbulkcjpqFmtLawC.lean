import Derived.Test.YbulkcjpqFmtLawB
namespace Go.Proofs.YbulkcjpqFmt
open Go.ChangeShapes Go.WideShapes Go.ChangeAt Go.RowKit Go.Deep
set_option linter.unusedVariables false
set_option linter.unusedSimpArgs false

theorem ownsRow_same {W W' : World} {b size n : Nat} {e : TypeId} {v : Value} {xs : List Value} (h : W.ownsRow b e size v n xs) (hs : ∀ g, v.ownBlock = some g → W'.heap[g]? = W.heap[g]?) : W'.ownsRow b e size v n xs := by
  refine ⟨h.1, ?_⟩
  rcases h.2 with h2 | ⟨g, cap, cur, rfl, h3, h4, h5⟩
  · exact .inl h2
  · exact .inr ⟨g, cap, cur, rfl, h3, (hs g rfl).trans h4, h5⟩
theorem ownsRow_base {W : World} {b b' size n : Nat} {e : TypeId} {v : Value} {xs : List Value} (h : W.ownsRow b e size v n xs) (hb : b' ≤ b) : W.ownsRow b' e size v n xs := by
  refine ⟨h.1, ?_⟩
  rcases h.2 with h2 | ⟨g, cap, cur, rfl, h3, h4, h5⟩
  · exact .inl h2
  · exact .inr ⟨g, cap, cur, rfl, by omega, h4, h5⟩
theorem ownsRow_below {W W' : World} {b size n : Nat} {e : TypeId} {v : Value} {xs : List Value} (h : W.ownsRow b e size v n xs) (hB : Below W.heap.size W W') : W'.ownsRow b e size v n xs :=
  ownsRow_same h fun g hg => hB.block g (h.lt g hg).2
theorem ownsRow_bar {W W' : World} {x b size n : Nat} {e : TypeId} {v : Value} {xs : List Value} (h : W.ownsRow b e size v n xs) (hB : Bar x W.heap.size W W') (hx : some x ≠ v.ownBlock) : W'.ownsRow b e size v n xs :=
  ownsRow_same h fun g hg => hB.block g (h.lt g hg).2 (fun e => hx (by rw [hg, e]))

/-- The shape of a row of one-celled things. -/
theorem row_form {W : World} {b k : Nat} {e : TypeId} {v : Value} {f : Nat → Value} (h : W.ownsRow b e 1 v k ((List.range k).map f)) :
    ∃ an cn, v = .slice an k cn ∧ k ≤ cn ∧ cn ≤ 9223372036854775807 ∧ (0 < k → ∃ g o, an = some ⟨g, o, none⟩ ∧ ∀ i, i < k → W.cell? ⟨g, o + i, none⟩ = some (f i)) := by
  rcases h.2 with ⟨rfl, h0⟩ | ⟨g, cap, cur, rfl, h3, h4, h5, h6, h7⟩
  · exact ⟨none, 0, by rw [h0], by omega, by omega, fun hk => by omega⟩
  · refine ⟨some ⟨g, 0, none⟩, cap, rfl, h5, by unfold maxLen at h6; omega, fun _ => ⟨g, 0, rfl, fun i hi => ?_⟩⟩
    rw [Nat.zero_add, h.cellAt i (by omega)]
    simp [hi]

/-- But for the blocks that 'ok' leaves out, what lay stays. -/
structure Wid (ok : Nat → Prop) (W W' : World) : Prop where
  os : W'.os = W.os
  tape : W'.tape = W.tape
  output : W'.output = W.output
  size : W.heap.size ≤ W'.heap.size
  block : ∀ k, k < W.heap.size → ok k → W'.heap[k]? = W.heap[k]?
theorem Wid.refl (ok : Nat → Prop) (W : World) : Wid ok W W := ⟨rfl, rfl, rfl, Nat.le_refl _, fun _ _ _ => rfl⟩
theorem Wid.of_bar {x : Nat} {W W' : World} (h : Bar x W.heap.size W W') {ok : Nat → Prop} (hx : ∀ k, ok k → k ≠ x) : Wid ok W W' := ⟨h.os, h.tape, h.output, h.size, fun k hk ho => h.block k hk (hx k ho)⟩
theorem Wid.of_below {W W' : World} (h : Below W.heap.size W W') (ok : Nat → Prop) : Wid ok W W' := ⟨h.os, h.tape, h.output, h.size, fun k hk _ => h.block k hk⟩
theorem Wid.of_grown {W W' : World} {row : Option Nat} (h : W.grownBy W' row) {ok : Nat → Prop} (hx : ∀ k, ok k → some k ≠ row) : Wid ok W W' := ⟨h.os, h.tape, h.output, h.size, fun k hk ho => h.block k hk (hx k ho)⟩
theorem Wid.of_set (W : World) (a : Addr) (u : Value) {ok : Nat → Prop} (hx : ∀ k, ok k → k ≠ a.block) : Wid ok W (W.setCell a u) := ⟨rfl, rfl, rfl, by simp [World.setCell], fun k hk ho => Below.heap_setCell _ _ _ _ (hx k ho)⟩
theorem Wid.trans {ok : Nat → Prop} {a b c : World} (h : Wid ok a b) (k : Wid ok b c) : Wid ok a c :=
  ⟨k.os.trans h.os, k.tape.trans h.tape, k.output.trans h.output, Nat.le_trans h.size k.size, fun i hi ho => (k.block i (Nat.lt_of_lt_of_le hi h.size) ho).trans (h.block i hi ho)⟩
theorem Wid.of_alloc (W : World) (o : Obj) (ok : Nat → Prop) : Wid ok W (W.alloc o) := ⟨rfl, rfl, rfl, by simp, fun k hk _ => Below.heap_alloc _ _ _ hk⟩
theorem Wid.weaken {ok ok' : Nat → Prop} {W W' : World} (h : Wid ok W W') (hx : ∀ k, ok' k → ok k) : Wid ok' W W' := ⟨h.os, h.tape, h.output, h.size, fun k hk ho => h.block k hk (hx k ho)⟩

/-- Is a stamp kept at place pl of process p? -/
def hasAt (M : Nat → Int) (p pl : Nat) : Bool := pl == 0 || !(bits BinOp.and IntKind.u8 (M p) (2 ^ pl % 256) == 0)

/-- What keeping one more stamp does. -/
def P3Post (W : World) (b0 gh gk idx : Nat) (C : Nat → Int) (kc0 hf : Nat → Value) (v : Value) (L : Nat) (xs : List Value) (pl : Nat) (W' : World) (v' : Value) : Prop :=
  ∃ (nv cv : Value) (k : Nat) (F : Nat → Nat) (kcf : Nat → Value), Sub F k C ∧ W'.ownsRow b0 9 1 nv k ((List.range k).map (fun t => namV (F t))) ∧ W'.ownsRow b0 24 1 cv k ((List.range k).map (fun t => cntV C (F t))) ∧
    W'.ownsRow b0 43 3 v' (L + 1) (xs ++ [.int .i32 pl, nv, cv]) ∧ Blk W' gh 29 24 (fun i => if i = idx then .bool true else hf i) ∧ Blk W' gk 27 72 kcf ∧
    (∀ i, i < 72 → kcf i = if idx * 3 ≤ i ∧ i < idx * 3 + 3 then .int .u64 (C (i - idx * 3)) else kc0 i) ∧ Wid (fun b => b ≠ gh ∧ b ≠ gk ∧ some b ≠ v.ownBlock) W W'

theorem info43 : (Ybaf.prog.info? 43).map (fun i => (i.zero, i.size, i.bytes)) = some (some (.agg #[.int .i32 0, .slice none 0 0, .slice none 0 0]), 3, 56) := by kernel_rfl

theorem Sub.full {F : Nat → Nat} {k : Nat} {C : Nat → Int} (h : Sub F k (fun q' => if q' < 3 then C q' else 0)) : Sub F k C :=
  ⟨h.le, h.lt, fun i hi => by have := h.ne i hi; simp only [if_pos (h.lt i hi)] at this; exact this, h.mono, fun q hq hc => h.all q hq (by rw [if_pos hq]; exact hc)⟩

theorem news_three (w : World) (u1 u2 u3 : Value) (e : TypeId) : ∀ j x, [u1, u2, u3][j]? = some x → (w.alloc (.cells #[u1, u2, u3] e)).cell? ((⟨w.heap.size, 0, none⟩ : Addr).add j) = some x := by
  intro j x hj
  rw [Addr.add_lit]
  simp only [World.cell?, Nat.zero_add]
  rw [heap_alloc_new]
  match j, hj with
  | 0, hj => simpa using hj
  | 1, hj => simpa using hj
  | 2, hj => simpa using hj
  | j + 3, hj => simp at hj

set_option maxHeartbeats 4000000 in
set_option maxRecDepth 20000 in
theorem law_blk3_no (v0 v1 v2 v3 v4 v5 v6 v7 v8 v10 v11 v12 v13 v14 v15 v16 v17 v20 v21 v22 v23 v24 v25 v26 v27 v28 v29 v30 v31 v32 v33 v34 v35 v36 v37 v38 v39 v40 v41 v42 v43 v44 v45 v46 v47 v48 v49 v50 v51 v52 v53 v54 v55 v56 v57 v58 v59 v60 v61 v62 v63 v64 v65 v66 v67 v68 v69 v70 v71 v72 v73 v74 v75 v76 v77 v78 v79 v80 v81 v82 v83 v84 v85 v86 v87 v88 v89 v90 v91 v92 v93 v94 v95 v96 v97 v98 v99 v100 v101 v102 v103 v104 v105 v106 v107 v108 v109 v110 v111 v112 v113 v114 v115 v116 v117 v118 v119 v120 v121 v122 v123 v124 v125 v126 v127 v128 v129 v130 v131 v132 v133 v134 v135 v136 v137 v138 v139 v140 v141 v142 v143 v144 v145 v146 v147 v148 v149 v150 v151 v152 v153 v154 v155 v156 v157 v158 v159 v160 v161 v162 v163 v164 v165 v166 v167 v168 v169 v170 v171 v172 v173 v174 v175 v176 v177 v178 v179 v180 v181 v182 v183 v184 v185 v186 v187 v188 v189 v190 v191 v192 v193 v194 v195 v196 v197 v198 v199 v200 v201 v202 v203 v204 v205 v206 v207 v208 v209 v210 v211 v212 v213 v214 v215 v216 v217 v218 v219 v220 v221 v222 v223 v224 v225 v226 v227 v228 v229 v230 v231 v232 v233 v234 v235 v236 v237 v238 v239 v240 v241 v242 v243 v244 v245 v246 v247 v248 v249 v250 v251 v252 v253 v254 v255 v256 v257 v258 v259 v260 v261 v262 v263 v264 v265 v266 v267 v268 v269 v270 v271 v272 v273 v274 v275 v276 v277 v278 v279 v280 v281 v282 v283 v284 v285 v286 v287 v288 v289 v290 v291 v292 v293 v294 v295 v296 v297 v298 v299 v300 v301 v302 v303 v304 v305 v306 v307 v308 v309 v310 v311 v312 v313 v314 v315 v316 v317 v318 v319 v320 v321 v322 v323 v324 v325 v326 v327 v328 v329 v330 v331 v332 v333 : Value) (W : World) (gM p pl : Nat) (M : Nat → Int) (hp : p < 3) (hpl : pl < 8) (hM : Blk W gM 23 3 (fun i => .int .u8 (M i))) (hMb : ∀ i, 0 ≤ M i ∧ M i ≤ 255) (hno : hasAt M p pl = false) :
    Code.wp Ybaf.prog (blkIn Ybaf.f3 3) (Exit.then (fun a' W' => ∃ (u66 u67 u68 u69 u70 u71 u72 u73 u74 u75 u76 u77 : Value), W' = W ∧ a' = ⟨#[v0, v1, v2, v3, v4, v5, v6, v7, v8, .pointer (some ⟨gM, 0, none⟩), v10, v11, v12, v13, v14, v15, v16, v17, .int .i64 (p : Int), .int .i64 (pl : Int), v20, v21, v22, v23, v24, v25, v26, v27, v28, v29, v30, v31, v32, v33, v34, v35, v36, v37, v38, v39, v40, v41, v42, v43, v44, v45, v46, v47, v48, v49, v50, v51, v52, v53, v54, v55, v56, v57, v58, v59, v60, v61, v62, v63, v64, v65, u66, u67, u68, u69, u70, u71, u72, u73, u74, u75, u76, u77, v78, v79, v80, v81, v82, v83, v84, v85, v86, v87, v88, v89, v90, v91, v92, v93, v94, v95, v96, v97, v98, v99, v100, v101, v102, v103, v104, v105, v106, v107, v108, v109, v110, v111, v112, v113, v114, v115, v116, v117, v118, v119, v120, v121, v122, v123, v124, v125, v126, v127, v128, v129, v130, v131, v132, v133, v134, v135, v136, v137, v138, v139, v140, v141, v142, v143, v144, v145, v146, v147, v148, v149, v150, v151, v152, v153, v154, v155, v156, v157, v158, v159, v160, v161, v162, v163, v164, v165, v166, v167, v168, v169, v170, v171, v172, v173, v174, v175, v176, v177, v178, v179, v180, v181, v182, v183, v184, v185, v186, v187, v188, v189, v190, v191, v192, v193, v194, v195, v196, v197, v198, v199, v200, v201, v202, v203, v204, v205, v206, v207, v208, v209, v210, v211, v212, v213, v214, v215, v216, v217, v218, v219, v220, v221, v222, v223, v224, v225, v226, v227, v228, v229, v230, v231, v232, v233, v234, v235, v236, v237, v238, v239, v240, v241, v242, v243, v244, v245, v246, v247, v248, v249, v250, v251, v252, v253, v254, v255, v256, v257, v258, v259, v260, v261, v262, v263, v264, v265, v266, v267, v268, v269, v270, v271, v272, v273, v274, v275, v276, v277, v278, v279, v280, v281, v282, v283, v284, v285, v286, v287, v288, v289, v290, v291, v292, v293, v294, v295, v296, v297, v298, v299, v300, v301, v302, v303, v304, v305, v306, v307, v308, v309, v310, v311, v312, v313, v314, v315, v316, v317, v318, v319, v320, v321, v322, v323, v324, v325, v326, v327, v328, v329, v330, v331, v332, v333], []⟩) (fun _ _ _ => False)) ⟨#[v0, v1, v2, v3, v4, v5, v6, v7, v8, .pointer (some ⟨gM, 0, none⟩), v10, v11, v12, v13, v14, v15, v16, v17, .int .i64 (p : Int), .int .i64 (pl : Int), v20, v21, v22, v23, v24, v25, v26, v27, v28, v29, v30, v31, v32, v33, v34, v35, v36, v37, v38, v39, v40, v41, v42, v43, v44, v45, v46, v47, v48, v49, v50, v51, v52, v53, v54, v55, v56, v57, v58, v59, v60, v61, v62, v63, v64, v65, v66, v67, v68, v69, v70, v71, v72, v73, v74, v75, v76, v77, v78, v79, v80, v81, v82, v83, v84, v85, v86, v87, v88, v89, v90, v91, v92, v93, v94, v95, v96, v97, v98, v99, v100, v101, v102, v103, v104, v105, v106, v107, v108, v109, v110, v111, v112, v113, v114, v115, v116, v117, v118, v119, v120, v121, v122, v123, v124, v125, v126, v127, v128, v129, v130, v131, v132, v133, v134, v135, v136, v137, v138, v139, v140, v141, v142, v143, v144, v145, v146, v147, v148, v149, v150, v151, v152, v153, v154, v155, v156, v157, v158, v159, v160, v161, v162, v163, v164, v165, v166, v167, v168, v169, v170, v171, v172, v173, v174, v175, v176, v177, v178, v179, v180, v181, v182, v183, v184, v185, v186, v187, v188, v189, v190, v191, v192, v193, v194, v195, v196, v197, v198, v199, v200, v201, v202, v203, v204, v205, v206, v207, v208, v209, v210, v211, v212, v213, v214, v215, v216, v217, v218, v219, v220, v221, v222, v223, v224, v225, v226, v227, v228, v229, v230, v231, v232, v233, v234, v235, v236, v237, v238, v239, v240, v241, v242, v243, v244, v245, v246, v247, v248, v249, v250, v251, v252, v253, v254, v255, v256, v257, v258, v259, v260, v261, v262, v263, v264, v265, v266, v267, v268, v269, v270, v271, v272, v273, v274, v275, v276, v277, v278, v279, v280, v281, v282, v283, v284, v285, v286, v287, v288, v289, v290, v291, v292, v293, v294, v295, v296, v297, v298, v299, v300, v301, v302, v303, v304, v305, v306, v307, v308, v309, v310, v311, v312, v313, v314, v315, v316, v317, v318, v319, v320, v321, v322, v323, v324, v325, v326, v327, v328, v329, v330, v331, v332, v333], []⟩ W := by
  conv => arg 2; whnf
  have hm := hM.cell hp
  have hb := hMb p
  unfold hasAt at hno
  simp only [Bool.or_eq_false_iff, Bool.not_eq_false'] at hno
  obtain ⟨h0, h1⟩ := hno
  have hpp : ¬ ((pl : Int) = 0) := by simp at h0; omega
  go_wp2
  exact ⟨_, _, _, _, _, _, _, _, _, _, _, _, by trivial, rfl⟩

set_option maxHeartbeats 4000000 in
set_option maxRecDepth 20000 in
theorem law_blk3_yes (v0 v1 v2 v3 v4 v6 v7 v8 v10 v11 v12 v13 v16 v20 v21 v22 v23 v24 v25 v26 v27 v28 v29 v30 v31 v32 v33 v34 v35 v36 v37 v38 v39 v40 v41 v42 v43 v44 v45 v46 v47 v48 v49 v50 v51 v52 v53 v54 v55 v56 v57 v58 v59 v60 v61 v62 v63 v64 v65 v66 v67 v68 v69 v70 v71 v72 v73 v74 v75 v76 v77 v78 v79 v80 v81 v82 v83 v84 v85 v86 v87 v88 v89 v90 v91 v92 v93 v94 v95 v96 v97 v98 v99 v100 v101 v102 v103 v104 v105 v106 v107 v108 v109 v110 v111 v112 v113 v114 v115 v116 v117 v118 v119 v120 v121 v122 v123 v124 v125 v126 v127 v128 v129 v130 v131 v132 v133 v134 v135 v136 v137 v138 v139 v140 v141 v142 v143 v144 v145 v146 v147 v148 v149 v150 v151 v152 v153 v154 v155 v156 v157 v158 v159 v160 v161 v162 v163 v164 v165 v166 v167 v168 v169 v170 v171 v172 v173 v174 v175 v176 v177 v178 v179 v180 v181 v182 v183 v184 v185 v186 v187 v188 v189 v190 v191 v192 v193 v194 v195 v196 v197 v198 v199 v200 v201 v202 v203 v204 v205 v206 v207 v208 v209 v210 v211 v212 v213 v214 v215 v216 v217 v218 v219 v220 v221 v222 v223 v224 v225 v226 v227 v228 v229 v230 v231 v232 v233 v234 v235 v236 v237 v238 v239 v240 v241 v242 v243 v244 v245 v246 v247 v248 v249 v250 v251 v252 v253 v254 v255 v256 v257 v258 v259 v260 v261 v262 v263 v264 v265 v266 v267 v268 v269 v270 v271 v272 v273 v274 v275 v276 v277 v278 v279 v280 v281 v282 v283 v284 v285 v286 v287 v288 v289 v290 v291 v292 v293 v294 v295 v296 v297 v298 v299 v300 v301 v302 v303 v304 v305 v306 v307 v308 v309 v310 v311 v312 v313 v314 v315 v316 v317 v318 v319 v320 v321 v322 v323 v324 v325 v326 v327 v328 v329 v330 v331 v332 v333 : Value) (W : World) (v : Value) (b0 L gk gM gh p pl lc cc : Nat) (ac : Option Addr) (E M : Nat → Int) (kc0 hf : Nat → Value) (xs : List Value) (hp : p < 3) (hpl : pl < 8) (hM : Blk W gM 23 3 (fun i => .int .u8 (M i))) (hMb : ∀ i, 0 ≤ M i ∧ M i ≤ 255) (hyes : hasAt M p pl = true)
    (hlc : lc ≤ 9223372036854775807) (hE : ∀ i, 0 ≤ E i ∧ E i ≤ 255) (hkc : Blk W gk 27 72 kc0) (hH : Blk W gh 29 24 hf) (hkh : gk ≠ gh) (hv : W.ownsRow b0 43 3 v L xs) (hL : L ≤ 100) (hb0 : b0 ≤ W.heap.size)
    (hcnt : 0 < lc → ∃ g o, ac = some ⟨g, o, none⟩ ∧ g ≠ gk ∧ g ≠ gh ∧ ∀ i, i < lc → W.cell? ⟨g, o + i, none⟩ = some (.int .u8 (E i))) :
    Code.wp Ybaf.prog (blkIn Ybaf.f3 3) (Exit.then (fun a' W' => ∃ (v' u20 u21 u22 u23 u24 u25 u66 u67 u68 u69 u70 u71 u72 u73 u74 u75 u76 u77 u78 u79 u80 u81 u82 u83 u84 u85 u86 u87 u88 u89 u90 u91 u92 u93 u94 u95 u96 u97 u98 u99 u100 u101 u102 u103 u104 u105 u106 u107 u108 u109 u110 u111 u112 u113 u114 u115 u116 u117 u118 u119 u120 u121 u122 u123 u124 u125 u126 u127 u128 u129 u130 u131 u132 u133 u134 u135 u136 : Value), P3Post W b0 gh gk (p * 8 + pl) (cntAt lc E ((p * 8 + pl) * 3)) kc0 hf v L xs pl W' v' ∧ a' = ⟨#[v0, v1, v2, v3, v4, .slice ac lc cc, v6, v7, v8, .pointer (some ⟨gM, 0, none⟩), v10, v11, v12, v13, .pointer (some ⟨gk, 0, none⟩), .pointer (some ⟨gh, 0, none⟩), v16, v', .int .i64 (p : Int), .int .i64 (pl : Int), u20, u21, u22, u23, u24, u25, v26, v27, v28, v29, v30, v31, v32, v33, v34, v35, v36, v37, v38, v39, v40, v41, v42, v43, v44, v45, v46, v47, v48, v49, v50, v51, v52, v53, v54, v55, v56, v57, v58, v59, v60, v61, v62, v63, v64, v65, u66, u67, u68, u69, u70, u71, u72, u73, u74, u75, u76, u77, u78, u79, u80, u81, u82, u83, u84, u85, u86, u87, u88, u89, u90, u91, u92, u93, u94, u95, u96, u97, u98, u99, u100, u101, u102, u103, u104, u105, u106, u107, u108, u109, u110, u111, u112, u113, u114, u115, u116, u117, u118, u119, u120, u121, u122, u123, u124, u125, u126, u127, u128, u129, u130, u131, u132, u133, u134, u135, u136, v137, v138, v139, v140, v141, v142, v143, v144, v145, v146, v147, v148, v149, v150, v151, v152, v153, v154, v155, v156, v157, v158, v159, v160, v161, v162, v163, v164, v165, v166, v167, v168, v169, v170, v171, v172, v173, v174, v175, v176, v177, v178, v179, v180, v181, v182, v183, v184, v185, v186, v187, v188, v189, v190, v191, v192, v193, v194, v195, v196, v197, v198, v199, v200, v201, v202, v203, v204, v205, v206, v207, v208, v209, v210, v211, v212, v213, v214, v215, v216, v217, v218, v219, v220, v221, v222, v223, v224, v225, v226, v227, v228, v229, v230, v231, v232, v233, v234, v235, v236, v237, v238, v239, v240, v241, v242, v243, v244, v245, v246, v247, v248, v249, v250, v251, v252, v253, v254, v255, v256, v257, v258, v259, v260, v261, v262, v263, v264, v265, v266, v267, v268, v269, v270, v271, v272, v273, v274, v275, v276, v277, v278, v279, v280, v281, v282, v283, v284, v285, v286, v287, v288, v289, v290, v291, v292, v293, v294, v295, v296, v297, v298, v299, v300, v301, v302, v303, v304, v305, v306, v307, v308, v309, v310, v311, v312, v313, v314, v315, v316, v317, v318, v319, v320, v321, v322, v323, v324, v325, v326, v327, v328, v329, v330, v331, v332, v333], []⟩) (fun _ _ _ => False)) ⟨#[v0, v1, v2, v3, v4, .slice ac lc cc, v6, v7, v8, .pointer (some ⟨gM, 0, none⟩), v10, v11, v12, v13, .pointer (some ⟨gk, 0, none⟩), .pointer (some ⟨gh, 0, none⟩), v16, v, .int .i64 (p : Int), .int .i64 (pl : Int), v20, v21, v22, v23, v24, v25, v26, v27, v28, v29, v30, v31, v32, v33, v34, v35, v36, v37, v38, v39, v40, v41, v42, v43, v44, v45, v46, v47, v48, v49, v50, v51, v52, v53, v54, v55, v56, v57, v58, v59, v60, v61, v62, v63, v64, v65, v66, v67, v68, v69, v70, v71, v72, v73, v74, v75, v76, v77, v78, v79, v80, v81, v82, v83, v84, v85, v86, v87, v88, v89, v90, v91, v92, v93, v94, v95, v96, v97, v98, v99, v100, v101, v102, v103, v104, v105, v106, v107, v108, v109, v110, v111, v112, v113, v114, v115, v116, v117, v118, v119, v120, v121, v122, v123, v124, v125, v126, v127, v128, v129, v130, v131, v132, v133, v134, v135, v136, v137, v138, v139, v140, v141, v142, v143, v144, v145, v146, v147, v148, v149, v150, v151, v152, v153, v154, v155, v156, v157, v158, v159, v160, v161, v162, v163, v164, v165, v166, v167, v168, v169, v170, v171, v172, v173, v174, v175, v176, v177, v178, v179, v180, v181, v182, v183, v184, v185, v186, v187, v188, v189, v190, v191, v192, v193, v194, v195, v196, v197, v198, v199, v200, v201, v202, v203, v204, v205, v206, v207, v208, v209, v210, v211, v212, v213, v214, v215, v216, v217, v218, v219, v220, v221, v222, v223, v224, v225, v226, v227, v228, v229, v230, v231, v232, v233, v234, v235, v236, v237, v238, v239, v240, v241, v242, v243, v244, v245, v246, v247, v248, v249, v250, v251, v252, v253, v254, v255, v256, v257, v258, v259, v260, v261, v262, v263, v264, v265, v266, v267, v268, v269, v270, v271, v272, v273, v274, v275, v276, v277, v278, v279, v280, v281, v282, v283, v284, v285, v286, v287, v288, v289, v290, v291, v292, v293, v294, v295, v296, v297, v298, v299, v300, v301, v302, v303, v304, v305, v306, v307, v308, v309, v310, v311, v312, v313, v314, v315, v316, v317, v318, v319, v320, v321, v322, v323, v324, v325, v326, v327, v328, v329, v330, v331, v332, v333], []⟩ W := by
  conv => arg 2; whnf
  have hm := hM.cell hp
  have hb := hMb p
  unfold hasAt at hyes
  have HE := Hid.intro hE
  have HCNT := Hid.intro hcnt
  clear hE hcnt hMb
  conv => arg 4; dsimp only
  go_upto_region 14 with fail
  go_cut [77] from 66 to 77 (fun v wc => v = .bool false ∧ wc = W)
  case first =>
    by_cases h0 : pl = 0
    · subst h0
      go_wp2_with fail
      go_meet
      exact ⟨rfl, rfl⟩
    · have hpp : ¬ ((pl : Int) = 0) := by omega
      have h1 : (bits BinOp.and IntKind.u8 (M p) (2 ^ pl % 256) == 0) = false := by
        rw [beq_false_of_ne h0] at hyes
        simpa using hyes
      go_wp2_with fail
      go_meet
      exact ⟨rfl, rfl⟩
  case rest =>
    obtain ⟨rfl, hwc⟩ := hcut
    have hwc' := hwc.symm
    clear hwc
    subst hwc'
    have hhc := hH.cell (i := p * 8 + pl) (by omega)
    have hhf := hH.free (p * 8 + pl)
    go_upto_block 4 with fail
    have hH1 := hH.set (p * 8 + pl) (.bool true)
    have hkc1 := hkc.other (a := ⟨gh, p * 8 + pl, none⟩) hkh (.bool true)
    have hw01 : Wid (fun b => b ≠ gh ∧ b ≠ gk ∧ some b ≠ v.ownBlock) W (W.setCell ⟨gh, p * 8 + pl, none⟩ (.bool true)) := Wid.of_set _ _ _ (fun k h => h.1)
    have hv1 := ownsRow_setCell_other hv (a := ⟨gh, p * 8 + pl, none⟩) (fun e => hH.notRow (by decide) hv e.symm) (.bool true)
    have hcnt1 : 0 < lc → ∃ g o, ac = some ⟨g, o, none⟩ ∧ g ≠ gk ∧ ∀ i, i < lc → (W.setCell ⟨gh, p * 8 + pl, none⟩ (.bool true)).cell? ⟨g, o + i, none⟩ = some (.int .u8 (E i)) := fun h => by
      obtain ⟨g, o, e, h1, h2, h3⟩ := HCNT.out h
      exact ⟨g, o, e, h1, fun i hi => set_far (a := ⟨gh, p * 8 + pl, none⟩) h2 (h3 i hi)⟩
    have hsz1 : W.heap.size = (W.setCell ⟨gh, p * 8 + pl, none⟩ (.bool true)).heap.size := by simp [World.setCell]
    generalize W.setCell ⟨gh, p * 8 + pl, none⟩ (.bool true) = W1 at hH1 hkc1 hw01 hv1 hcnt1 hsz1 ⊢
    clear hhc hhf hm hM hH hkc hv
    refine wp_then (law_blk4 _ _ _ _ _ _ _ _ _ _ _ _ _ _ _ _ _ _ _ _ _ _ _ _ _ _ _ _ _ _ _ _ _ _ _ _ _ _ _ _ _ _ _ _ _ _ _ _ _ _ _ _ _ _ _ _ _ _ _ _ _ _ _ _ _ _ _ _ _ _ _ _ _ _ _ _ _ _ _ _ _ _ _ _ _ _ _ _ _ _ _ _ _ _ _ _ _ _ _ _ _ _ _ _ _ _ _ _ _ _ _ _ _ _ _ _ _ _ _ _ _ _ _ _ _ _ _ _ _ _ _ _ _ _ _ _ _ _ _ _ _ _ _ _ _ _ _ _ _ _ _ _ _ _ _ _ _ _ _ _ _ _ _ _ _ _ _ _ _ _ _ _ _ _ _ _ _ _ _ _ _ _ _ _ _ _ _ _ _ _ _ _ _ _ _ _ _ _ _ _ _ _ _ _ _ _ _ _ _ _ _ _ _ _ _ _ _ _ _ _ _ _ _ _ _ _ _ _ _ _ _ _ _ _ _ _ _ _ _ _ _ _ _ _ _ _ _ _ _ _ _ _ _ _ _ _ _ _ _ _ _ _ _ _ _ _ _ _ _ _ _ _ _ _ _ _ _ _ _ _ _ _ _ _ _ _ _ _ _ _ _ _ _ _ _ _ _ _ _ _ _ _ _ _ _ _ _ _ _ _ _ _ _ _ _ _ _ _ _ _ _ _ _ _ _ _ _ W1 gk p pl lc cc ac E kc0 hp hpl hlc HE.out hkc1 hcnt1) ?_
    rintro _ W2 ⟨nv, cv, u22, u23, u82, u83, u84, u85, u86, u87, u88, u89, u90, u91, u92, u93, u94, u95, u96, u97, u98, u99, u100, u101, u102, u103, u104, u105, u106, u107, u108, u109, u110, u111, u112, u113, u114, u115, u116, u117, u118, u119, u120, u121, hph, rfl⟩
    obtain ⟨k, F, nn, nc, kcf, hQ, hnl, hcl, rfl, rfl, hsub, hFq, hkcf⟩ := hph
    have hsub := hsub.full
    have hon := hQ.on
    rw [hnl] at hon
    have hoc := hQ.oc
    rw [hcl] at hoc
    obtain ⟨an, cn, rfl, hn1, hn2, hn3⟩ := row_form hon
    obtain ⟨ac2, cc2, rfl, hc1, hc2, hc3⟩ := row_form hoc
    have h3 := hsub.le
    have hH2 := hH1.same (hQ.bar.block gh hH1.lt (fun e => hkh e.symm))
    have hv2 := ownsRow_bar hv1 hQ.bar (hkc1.notRow (by decide) hv1)
    have hw12 : Wid (fun b => b ≠ gh ∧ b ≠ gk ∧ some b ≠ v.ownBlock) W1 W2 := Wid.of_bar hQ.bar (fun k h => h.2.1)
    have hkc2 := hQ.kc
    have hz2 := hQ.bar.size
    have HON := Hid.intro hon
    have HOC := Hid.intro hoc
    have HSUB := Hid.intro hsub
    have HKCF := Hid.intro hkcf
    clear hon hoc hkcf hQ hFq
    go_wp2_with fail
    refine (stampOf_any an cn ac2 cc2 k F (fun t => (cntAt lc E ((p * 8 + pl) * 3)) (F t)) _ h3 HSUB.out.lt HSUB.out.mono HSUB.out.ne hn3 hc3).mono ?_
    rintro e W3 ⟨rfl, hB3⟩
    have HB3 := Hid.intro hB3
    have hv3 := ownsRow_below hv2 hB3
    clear hB3 hsub hn3 hc3
    have hv4 := ((hv3.alloc (.cells #[.slice an k cn, .slice ac2 k cc2] 37)).alloc (.cells #[.int .i32 (pl : Int), .slice an k cn, .slice ac2 k cc2] 43))
    obtain ⟨i0, hi0, hz0, hz1, hz2'⟩ := info_parts info43
    have hz3 := HB3.out.size
    go_wp2_with (at_builtin; (refine wpList_append_own _ rfl (.tmp 130) (.tmp 135) 31 rfl b0 43 i0 (.agg #[.int .i32 0, .slice none 0 0, .slice none 0 0]) 3 56 Ybaf.underlying31 hi0 hz0 hz1 hz2' rfl (by decide) v L xs rfl hv4 ⟨W3.heap.size + 1, 0, none⟩ 1 1 [.int .i32 (pl : Int), .slice an k cn, .slice ac2 k cc2] rfl rfl (by have := news_three (W3.alloc (.cells #[.slice an k cn, .slice ac2 k cc2] 37)) (.int .i32 (pl : Int)) (.slice an k cn) (.slice ac2 k cc2) 43; simpa using this) (by intro u hu; simp at hu; rcases hu with rfl | rfl | rfl <;> rfl) (by unfold maxLen; omega) (by omega) (by simp; omega) ?_; intro v' W5 hown5 hgr5 _))
    have hH4 := ((hH2.same (HB3.out.block gh hH2.lt)).alloc (.cells #[.slice an k cn, .slice ac2 k cc2] 37)).alloc (.cells #[.int .i32 (pl : Int), .slice an k cn, .slice ac2 k cc2] 43)
    have hkc4 := ((hkc2.same (HB3.out.block gk hkc2.lt)).alloc (.cells #[.slice an k cn, .slice ac2 k cc2] 37)).alloc (.cells #[.int .i32 (pl : Int), .slice an k cn, .slice ac2 k cc2] 43)
    have hon4 := ((ownsRow_below HON.out HB3.out).alloc (.cells #[.slice an k cn, .slice ac2 k cc2] 37)).alloc (.cells #[.int .i32 (pl : Int), .slice an k cn, .slice ac2 k cc2] 43)
    have hoc4 := ((ownsRow_below HOC.out HB3.out).alloc (.cells #[.slice an k cn, .slice ac2 k cc2] 37)).alloc (.cells #[.int .i32 (pl : Int), .slice an k cn, .slice ac2 k cc2] 43)
    refine ⟨v', _, _, _, _, _, _, _, _, _, _, _, _, _, _, _, _, _, _, _, _, _, _, _, _, _, _, _, _, _, _, _, _, _, _, _, _, _, _, _, _, _, _, _, _, _, _, _, _, _, _, _, _, _, _, _, _, _, _, _, _, _, _, _, _, _, _, _, _, _, _, _, _, _, _, _, _, _, ⟨.slice an k cn, .slice ac2 k cc2, k, F, kcf, HSUB.out, ?_, ?_, hown5, hH4.same (hgr5.block gh hH4.lt (hH4.notRow (by decide) hv4)), hkc4.same (hgr5.block gk hkc4.lt (hkc4.notRow (by decide) hv4)), HKCF.out, hw01.trans (hw12.trans ((Wid.of_below HB3.out _).trans ((Wid.of_alloc _ _ _).trans ((Wid.of_alloc _ _ _).trans (Wid.of_grown hgr5 (fun k h => h.2.2))))))⟩, rfl⟩
    · exact ownsRow_base (hon4.kept hgr5 (rows_apart hon4 hv4 (by decide))) (by omega)
    · exact ownsRow_base (hoc4.kept hgr5 (rows_apart hoc4 hv4 (by decide))) (by omega)

end Go.Proofs.YbulkcjpqFmt
