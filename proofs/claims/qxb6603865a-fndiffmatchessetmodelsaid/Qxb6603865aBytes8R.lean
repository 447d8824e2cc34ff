import Derived.Test.Qxb6603865aBytes2
import Derived.Test.Qxb6603865aDiffMem
import Derived.Test.Qxb6603865aToBundle
/- zzBytes_FnDiffMatchesSetModel (function 8), her second half: written by tools/gb8.py -/
namespace Go.Proofs.Qxb6603865a
open Go.RowKit

/-- A manifest's lists and the command's strings within the law's bound. -/
def SmallM (bl nb : Nat) (B : Nat → ByteArray) : Prop := bl ≤ 1048576 ∧ nb ≤ 1048576 ∧ ∀ j, j < bl → (B j).size ≤ 1048576

/-- What follows a text's first step. -/
def tl : Code → Code
  | .seq _ b => b
  | c => c
def tail3 (o : Option Code) : Code := (o.map fun b => tl (tl (tl b))).getD .skip

set_option maxRecDepth 12000 in
set_option maxHeartbeats 8000000 in
theorem bytes8_rest (fp tp : Option Addr) (cl na : Nat) (C : Nat → ByteArray) (G : Nat → FileR) (P0 : Prop) (w : World) (A1 : Hid P0) (h2 : FromAt w tp cl C na G) (kc : cl ≤ 2 ^ 63 - 1) (ka : na ≤ 2 ^ 63 - 1)
    (m0 : Int) (u0 : 0 ≤ m0) (u1 : m0 ≤ 1048576) (v2 v3 v4 v6 v7 v8 v9 v10 v11 v12 v13 v14 v15 v16 v17 v18 v19 v20 v21 v22 v23 v24 v25 v26 v27 v28 v29 v30 v31 v32 v33 v34 v35 v36 v37 v38 v39 v40 v41 v42 v43 v44 v45 v46 v47 v48 v49 v50 v51 v52 v53 v54 v55 v56 v57 v58 v59 v60 v61 v62 v63 v64 v65 v66 v67 v68 v69 v70 v71 v72 v73 v74 v75 v76 v77 v78 v79 v80 v81 v82 v83 v84 v85 v86 v87 v88 v89 v90 v91 v92 v93 v94 v95 v96 v97 v98 v99 v100 v101 v102 v103 v104 v105 v106 v107 v108 v109 v110 v111 v112 v113 v114 v115 v116 v117 v118 v119 v120 v121 v122 v123 v124 v125 v126 v127 v128 v129 v130 v131 v132 v133 v134 v135 v136 v137 v138 v139 v140 v141 v142 v143 v144 v145 v146 v147 v148 v149 v150 v151 v152 v153 v154 v155 v156 v157 v158 v159 v160 v161 v162 v163 v164 v165 v166 v167 v168 v169 v170 v171 v172 v173 v174 v175 v176 v177 v178 v179 v180 v181 v182 v183 v184 v185 v186 v187 v188 v189 v190 v191 v192 v193 v194 v195 v196 v197 v198 v199 v200 v201 v202 v203 v204 v205 v206 v207 v208 v209 v210 v211 v212 v213 v214 v215 v216 v217 v218 v219 v220 v221 v222 v223 v224 v225 v226 v227 v228 v229 v230 v231 v232 v233 v234 v235 v236 v237 v238 v239 v240 v241 v242 v243 v244 v245 v246 v247 v248 v249 v250 v251 v252 v253 v254 v255 v256 v257 v258 v259 v260 v261 v262 v263 v264 v265 v266 v267 v268 v269 v270 v271 v272 v273 v274 v275 v276 v277 v278 v279 v280 v281 v282 v283 v284 v285 v286 v287 v288 v289 v290 v291 v292 v293 v294 v295 v296 v297 v298 v299 v300 v301 v302 v303 v304 v305 v306 v307 v308 v309 v310 v311 v312 v313 v314 v315 v316 v317 v318 v319 v320 v321 v322 v323 v324 v325 v326 v327 v328 v329 v330 v331 v332 v333 v334 v335 v336 v337 v338 v339 v340 v341 v342 v343 v344 v345 v346 v347 v348 v349 v350 v351 v352 v353 v354 v355 v356 v357 v358 v359 v360 v361 v362 v363 v364 v365 v366 v367 v368 v369 v370 v371 v372 v373 v374 v375 v376 v377 v378 v379 v380 v381 v382 v383 v384 v385 v386 v387 v388 v389 v390 v391 v392 v393 : Value) :
    Code.wp Try.prog (tail3 Try.f8.body) (bodyPost Try.prog Try.f8 fun e w' => Said (P0 ∧ SmallM cl na C) e ∧ w = w') ⟨#[.pointer fp, .pointer tp, v2, v3, v4, .int .i64 m0, v6, v7, v8, v9, v10, v11, v12, v13, v14, v15, v16, v17, v18, v19, v20, v21, v22, v23, v24, v25, v26, v27, v28, v29, v30, v31, v32, v33, v34, v35, v36, v37, v38, v39, v40, v41, v42, v43, v44, v45, v46, v47, v48, v49, v50, v51, v52, v53, v54, v55, v56, v57, v58, v59, v60, v61, v62, v63, v64, v65, v66, v67, v68, v69, v70, v71, v72, v73, v74, v75, v76, v77, v78, v79, v80, v81, v82, v83, v84, v85, v86, v87, v88, v89, v90, v91, v92, v93, v94, v95, v96, v97, v98, v99, v100, v101, v102, v103, v104, v105, v106, v107, v108, v109, v110, v111, v112, v113, v114, v115, v116, v117, v118, v119, v120, v121, v122, v123, v124, v125, v126, v127, v128, v129, v130, v131, v132, v133, v134, v135, v136, v137, v138, v139, v140, v141, v142, v143, v144, v145, v146, v147, v148, v149, v150, v151, v152, v153, v154, v155, v156, v157, v158, v159, v160, v161, v162, v163, v164, v165, v166, v167, v168, v169, v170, v171, v172, v173, v174, v175, v176, v177, v178, v179, v180, v181, v182, v183, v184, v185, v186, v187, v188, v189, v190, v191, v192, v193, v194, v195, v196, v197, v198, v199, v200, v201, v202, v203, v204, v205, v206, v207, v208, v209, v210, v211, v212, v213, v214, v215, v216, v217, v218, v219, v220, v221, v222, v223, v224, v225, v226, v227, v228, v229, v230, v231, v232, v233, v234, v235, v236, v237, v238, v239, v240, v241, v242, v243, v244, v245, v246, v247, v248, v249, v250, v251, v252, v253, v254, v255, v256, v257, v258, v259, v260, v261, v262, v263, v264, v265, v266, v267, v268, v269, v270, v271, v272, v273, v274, v275, v276, v277, v278, v279, v280, v281, v282, v283, v284, v285, v286, v287, v288, v289, v290, v291, v292, v293, v294, v295, v296, v297, v298, v299, v300, v301, v302, v303, v304, v305, v306, v307, v308, v309, v310, v311, v312, v313, v314, v315, v316, v317, v318, v319, v320, v321, v322, v323, v324, v325, v326, v327, v328, v329, v330, v331, v332, v333, v334, v335, v336, v337, v338, v339, v340, v341, v342, v343, v344, v345, v346, v347, v348, v349, v350, v351, v352, v353, v354, v355, v356, v357, v358, v359, v360, v361, v362, v363, v364, v365, v366, v367, v368, v369, v370, v371, v372, v373, v374, v375, v376, v377, v378, v379, v380, v381, v382, v383, v384, v385, v386, v387, v388, v389, v390, v391, v392, v393], []⟩ w := by
  conv => arg 2; whnf
  rcases h2 with ⟨rfl, rfl, rfl⟩ | ⟨pb, po, s0, s1, s2, s3, s4, ca, cc, fa, fc, rfl, hM⟩
  · go_wp2
    go_ret
    exact ⟨Said.yes ⟨A1.out, ⟨by omega, by omega, fun j hj => absurd hj (Nat.not_lt_zero j)⟩⟩, rfl⟩
  · have HM : Hid (ManAt w pb po s0 s1 s2 s3 s4 ca cl cc C fa na fc G) := hM
    clear hM
    obtain ⟨c0, c1, c2, c3, c4, c5, c6, ⟨z0, z1, z2, z3, z4⟩, hC, hF, _⟩ := HM.out
    have HC : Hid (RowS w ca cl C) := hC
    have HF : Hid (RowF w fa na G) := hF
    clear hC hF HM
    unfold maxLen at z0 z1 z2 z3 z4
    go_wp2
    all_goals try (go_ret; exact ⟨Said.no, rfl⟩)
    clear c0 c1 c2 c3 c4
    go_loop [5, 8] (fun z t => ∃ (m : Int) (i : Nat), z = .int .i64 m ∧ t = .int .i64 i ∧ 0 ≤ m ∧ m ≤ 1048576 ∧ i ≤ cl ∧ Hid (∀ j, j < i → (C j).size ≤ 1048576)) (fun _ t => cl - (intOf t).toNat)
    case atStart => exact ⟨_, 0, rfl, rfl, by omega, by omega, Nat.zero_le _, fun j hj => absurd hj (Nat.not_lt_zero j)⟩
    case round =>
      clear z0 z1 z2 z3 z4
      have q5 : cl ≤ 1048576 := by omega
      obtain ⟨m, i, rfl, rfl, h0, h1, hi, HI⟩ := hrel
      by_cases hlt : i < cl
      · obtain ⟨⟨q, off, rfl, hcl⟩, hs⟩ := HC.out i hlt
        unfold maxLen at hs
        by_cases hs2 : 1048576 < (C i).size
        · go_wp2
          go_ret
          exact ⟨Said.no, rfl⟩
        have HI2 : Hid (∀ j, j < i + 1 → (C j).size ≤ 1048576) := all_succ HI.out (by omega)
        clear HI
        by_cases hs3 : 1048576 < m + ((C i).size : Int)
        · go_wp2
          go_ret
          exact ⟨Said.no, rfl⟩
        go_wp2
        go_round
        case rel => exact ⟨m + ((C i).size : Int), i + 1, rfl, by go_num, by omega, by omega, by omega, HI2⟩
        case measure => simp [intOf]; omega
      · have hia : i = cl := by omega
        have HI2 : Hid (∀ j, j < cl → (C j).size ≤ 1048576) := by rw [← hia]; exact HI.out
        clear HI
        by_cases hfl : 1048576 < na
        · go_wp2
          go_ret
          exact ⟨Said.no, rfl⟩
        by_cases hfl2 : 1048576 < m + (na : Int)
        · go_wp2
          go_ret
          exact ⟨Said.no, rfl⟩
        go_wp2
        clear c5 hi hia HC
        go_loop [5, 9] (fun z t => ∃ (m : Int) (i : Nat), z = .int .i64 m ∧ t = .int .i64 i ∧ 0 ≤ m ∧ m ≤ 1048576 ∧ i ≤ na) (fun _ t => na - (intOf t).toNat)
        case atStart => exact ⟨_, 0, rfl, rfl, by omega, by omega, Nat.zero_le _⟩
        case round =>
          clear h0 h1 hfl2
          obtain ⟨m, i, rfl, rfl, h0, h1, hi⟩ := hrel
          by_cases hlt : i < na
          · obtain ⟨⟨q, off, rfl, f0, f1, f2, f3⟩, hs, ht⟩ := HF.out i hlt
            clear f2 f3
            unfold maxLen at hs ht
            by_cases hs2 : 1048576 < (G i).path.size
            · go_wp2
              go_ret
              exact ⟨Said.no, rfl⟩
            by_cases hs3 : 1048576 < m + ((G i).path.size : Int)
            · go_wp2
              go_ret
              exact ⟨Said.no, rfl⟩
            by_cases hs4 : 1048576 < (G i).sha.size
            · go_wp2
              go_ret
              exact ⟨Said.no, rfl⟩
            by_cases hs5 : 1048576 < m + ((G i).path.size : Int) + ((G i).sha.size : Int)
            · go_wp2
              go_ret
              exact ⟨Said.no, rfl⟩
            go_wp2
            go_round
            case rel => exact ⟨m + ((G i).path.size : Int) + ((G i).sha.size : Int), i + 1, rfl, by go_num, by omega, by omega, by omega⟩
            case measure => simp [intOf]; omega
          · go_wp2
            go_ret
            exact ⟨Said.yes ⟨A1.out, ⟨by omega, by omega, HI2.out⟩⟩, rfl⟩

end Go.Proofs.Qxb6603865a
