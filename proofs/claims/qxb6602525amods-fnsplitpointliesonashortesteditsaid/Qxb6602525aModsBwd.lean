/-
  The backward half of a round of 'split', walked. (The frames were typed by a program.)
-/
import Derived.Test.Qxb6602525aModsFwd
namespace Go.Proofs.Qxb6602525aMods
open Go.RowKit
set_option linter.unusedVariables false

namespace Sp
variable {n m : Nat} {E : Nat → Nat → Prop} {df db : Nat → Nat → Nat} {D c : Nat} {odd : Bool} {flo fhi blo bhi k lo hi : Int} {F G G' : Int → Int}
theorem BH.cs (g : Grid n m E df db D) (h : MI n m df db D c flo fhi blo bhi F G) (f : BH n m df db D c odd flo fhi blo bhi F G k lo hi G') (hk : k ≤ hi) (hc : candB n blo bhi G' k ≤ n) :
    0 ≤ candB n blo bhi G' k ∧ 0 ≤ candB n blo bhi G' k - k ∧ candB n blo bhi G' k - k ≤ m := by
  have hkp := f.rnd.kp
  have hin := f.rnd.inside (by omega)
  obtain ⟨c1, c2⟩ := (f.cand h hk).1 hc
  have cs := cand_sound g.mirror.flip (c := c) (k := k - ((n : Int) - m)) h.bi hkp (by rw [f.rnd.cand_eq] at c1; exact c1) (by have := f.rnd.klo; omega) (by omega)
  rw [← f.rnd.cand_eq, c2] at cs
  omega
end Sp

set_option maxRecDepth 1000000 in
def BX (w : World) (base d f b ga gb la lb cpa cpb x0 y0 n m r : Nat) (dl : Int) (odd : Bool) (df db : Nat → Nat → Nat) (D c : Nat) (flo fhi blo bhi : Int) (F G : Int → Int) (wk : Int) (v5 v6 v7 v8 v9 v17 v19 v28 v31 v32 v33 v37 v38 v39 v40 v41 v42 v43 v44 v45 v46 v47 v48 v49 v50 v51 v52 v53 v54 v55 v56 v57 v58 v59 v60 v61 v62 v63 v64 v65 v66 v67 v68 v69 v70 v71 v72 v73 v74 v75 v76 v77 v78 v79 v80 v81 v82 v83 v84 v85 v86 v87 v88 v89 v90 v91 v92 v93 v94 v95 v96 v97 v98 v99 v100 v101 v102 v103 v104 v105 v106 v107 v108 v109 v110 v111 v112 v113 v114 v115 v116 v117 v118 v119 v120 v121 v122 v123 v124 v125 v126 v127 v128 v129 v130 v131 v132 v133 v134 v135 v136 v137 v138 v139 v140 v141 v142 v143 v144 v145 v146 v147 v148 v149 v150 v151 v152 v153 v154 v155 v156 v157 v158 v159 v160 v161 v162 v163 v164 v165 v166 v167 v168 v169 v170 v171 v172 v173 v174 v175 v176 v177 v178 v179 v180 v181 v182 v183 v184 v185 v186 v187 v188 v189 v190 v191 v192 v193 v194 v195 v196 v197 v198 v199 v200 v201 v202 v203 v204 v205 v206 v207 v208 v209 v210 v211 v212 v213 v214 v215 v216 v217 v218 v219 v220 v221 v222 v223 v224 v225 v226 v227 v228 v229 v230 v231 v232 v233 v234 v235 v236 v237 v238 v239 v240 v241 v242 v243 v244 v245 v246 v247 v248 v249 v250 v251 v252 v253 v254 v255 v256 v257 v258 v259 v260 v261 v262 v263 v264 v265 v266 v267 v268 v269 v270 v271 v272 v273 v274 v275 v276 v277 v278 v436 v437 v438 v439 v440 v441 v442 v443 v444 v445 v446 v447 v448 v449 v450 v451 v452 v453 v454 v455 v456 : Value) (a' : Act) (wx : World) : Prop :=
  ∃ (lo hi : Int) (G' : Int → Int) (wk' : Int), Hid (Sp.OI n m df db D (c + 1) flo fhi lo hi F G') ∧ Hid (SM w wx base d f b (.slice (some ⟨ga, 0, none⟩) la la) (.slice (some ⟨gb, 0, none⟩) lb lb) r dl r F G' wk') ∧ Hid (wk - 45000000 ≤ wk' ∧ wk' ≤ 9223372036854775807) ∧ ∃ t10 t11 t12 t34 t35 t36 t279 t280 t281 t282 t283 t284 t285 t286 t287 t288 t289 t290 t291 t292 t293 t294 t295 t296 t297 t298 t299 t300 t301 t302 t303 t304 t305 t306 t307 t308 t309 t310 t311 t312 t313 t314 t315 t316 t317 t318 t319 t320 t321 t322 t323 t324 t325 t326 t327 t328 t329 t330 t331 t332 t333 t334 t335 t336 t337 t338 t339 t340 t341 t342 t343 t344 t345 t346 t347 t348 t349 t350 t351 t352 t353 t354 t355 t356 t357 t358 t359 t360 t361 t362 t363 t364 t365 t366 t367 t368 t369 t370 t371 t372 t373 t374 t375 t376 t377 t378 t379 t380 t381 t382 t383 t384 t385 t386 t387 t388 t389 t390 t391 t392 t393 t394 t395 t396 t397 t398 t399 t400 t401 t402 t403 t404 t405 t406 t407 t408 t409 t410 t411 t412 t413 t414 t415 t416 t417 t418 t419 t420 t421 t422 t423 t424 t425 t426 t427 t428 t429 t430 t431 t432 t433 t434 t435 : Value, a' = ⟨List.toArray ((Value.pointer (some ⟨d, 0, none⟩)) :: (Value.int .i64 x0) :: (Value.int .i64 ((x0 : Int) + n)) :: (Value.int .i64 y0) :: (Value.int .i64 ((y0 : Int) + m)) :: v5 :: v6 :: v7 :: v8 :: v9 :: t10 :: t11 :: t12 :: (Value.slice (some ⟨ga, x0, none⟩) n cpa) :: (Value.slice (some ⟨gb, y0, none⟩) m cpb) :: (Value.int .i64 n) :: (Value.int .i64 m) :: v17 :: (Value.bool odd) :: v19 :: (Value.int .i64 r) :: (Value.int .i64 ((r : Int) - dl)) :: (Value.slice (some ⟨f, 0, none⟩) (2 * r + 1) (2 * r + 1)) :: (Value.slice (some ⟨b, 0, none⟩) (2 * r + 1) (2 * r + 1)) :: (Value.int .i64 flo) :: (Value.int .i64 fhi) :: (Value.int .i64 blo) :: (Value.int .i64 bhi) :: v28 :: (Value.int .i64 lo) :: (Value.int .i64 hi) :: v31 :: v32 :: v33 :: t34 :: t35 :: t36 :: v37 :: v38 :: v39 :: v40 :: v41 :: v42 :: v43 :: v44 :: v45 :: v46 :: v47 :: v48 :: v49 :: v50 :: v51 :: v52 :: v53 :: v54 :: v55 :: v56 :: v57 :: v58 :: v59 :: v60 :: v61 :: v62 :: v63 :: v64 :: v65 :: v66 :: v67 :: v68 :: v69 :: v70 :: v71 :: v72 :: v73 :: v74 :: v75 :: v76 :: v77 :: v78 :: v79 :: v80 :: v81 :: v82 :: v83 :: v84 :: v85 :: v86 :: v87 :: v88 :: v89 :: v90 :: v91 :: v92 :: v93 :: v94 :: v95 :: v96 :: v97 :: v98 :: v99 :: v100 :: v101 :: v102 :: v103 :: v104 :: v105 :: v106 :: v107 :: v108 :: v109 :: v110 :: v111 :: v112 :: v113 :: v114 :: v115 :: v116 :: v117 :: v118 :: v119 :: v120 :: v121 :: v122 :: v123 :: v124 :: v125 :: v126 :: v127 :: v128 :: v129 :: v130 :: v131 :: v132 :: v133 :: v134 :: v135 :: v136 :: v137 :: v138 :: v139 :: v140 :: v141 :: v142 :: v143 :: v144 :: v145 :: v146 :: v147 :: v148 :: v149 :: v150 :: v151 :: v152 :: v153 :: v154 :: v155 :: v156 :: v157 :: v158 :: v159 :: v160 :: v161 :: v162 :: v163 :: v164 :: v165 :: v166 :: v167 :: v168 :: v169 :: v170 :: v171 :: v172 :: v173 :: v174 :: v175 :: v176 :: v177 :: v178 :: v179 :: v180 :: v181 :: v182 :: v183 :: v184 :: v185 :: v186 :: v187 :: v188 :: v189 :: v190 :: v191 :: v192 :: v193 :: v194 :: v195 :: v196 :: v197 :: v198 :: v199 :: v200 :: v201 :: v202 :: v203 :: v204 :: v205 :: v206 :: v207 :: v208 :: v209 :: v210 :: v211 :: v212 :: v213 :: v214 :: v215 :: v216 :: v217 :: v218 :: v219 :: v220 :: v221 :: v222 :: v223 :: v224 :: v225 :: v226 :: v227 :: v228 :: v229 :: v230 :: v231 :: v232 :: v233 :: v234 :: v235 :: v236 :: v237 :: v238 :: v239 :: v240 :: v241 :: v242 :: v243 :: v244 :: v245 :: v246 :: v247 :: v248 :: v249 :: v250 :: v251 :: v252 :: v253 :: v254 :: v255 :: v256 :: v257 :: v258 :: v259 :: v260 :: v261 :: v262 :: v263 :: v264 :: v265 :: v266 :: v267 :: v268 :: v269 :: v270 :: v271 :: v272 :: v273 :: v274 :: v275 :: v276 :: v277 :: v278 :: t279 :: t280 :: t281 :: t282 :: t283 :: t284 :: t285 :: t286 :: t287 :: t288 :: t289 :: t290 :: t291 :: t292 :: t293 :: t294 :: t295 :: t296 :: t297 :: t298 :: t299 :: t300 :: t301 :: t302 :: t303 :: t304 :: t305 :: t306 :: t307 :: t308 :: t309 :: t310 :: t311 :: t312 :: t313 :: t314 :: t315 :: t316 :: t317 :: t318 :: t319 :: t320 :: t321 :: t322 :: t323 :: t324 :: t325 :: t326 :: t327 :: t328 :: t329 :: t330 :: t331 :: t332 :: t333 :: t334 :: t335 :: t336 :: t337 :: t338 :: t339 :: t340 :: t341 :: t342 :: t343 :: t344 :: t345 :: t346 :: t347 :: t348 :: t349 :: t350 :: t351 :: t352 :: t353 :: t354 :: t355 :: t356 :: t357 :: t358 :: t359 :: t360 :: t361 :: t362 :: t363 :: t364 :: t365 :: t366 :: t367 :: t368 :: t369 :: t370 :: t371 :: t372 :: t373 :: t374 :: t375 :: t376 :: t377 :: t378 :: t379 :: t380 :: t381 :: t382 :: t383 :: t384 :: t385 :: t386 :: t387 :: t388 :: t389 :: t390 :: t391 :: t392 :: t393 :: t394 :: t395 :: t396 :: t397 :: t398 :: t399 :: t400 :: t401 :: t402 :: t403 :: t404 :: t405 :: t406 :: t407 :: t408 :: t409 :: t410 :: t411 :: t412 :: t413 :: t414 :: t415 :: t416 :: t417 :: t418 :: t419 :: t420 :: t421 :: t422 :: t423 :: t424 :: t425 :: t426 :: t427 :: t428 :: t429 :: t430 :: t431 :: t432 :: t433 :: t434 :: t435 :: v436 :: v437 :: v438 :: v439 :: v440 :: v441 :: v442 :: v443 :: v444 :: v445 :: v446 :: v447 :: v448 :: v449 :: v450 :: v451 :: v452 :: v453 :: v454 :: v455 :: v456 :: []), []⟩
set_option maxRecDepth 1000000 in
def BR (w : World) (base d f b ga gb la lb cpa cpb x0 y0 n m r : Nat) (dl : Int) (odd : Bool) (df db : Nat → Nat → Nat) (D c : Nat) (flo fhi blo bhi : Int) (F G : Int → Int) (wk : Int) (v5 v6 v7 v8 v9 v17 v19 v28 v31 v32 v33 v37 v38 v39 v40 v41 v42 v43 v44 v45 v46 v47 v48 v49 v50 v51 v52 v53 v54 v55 v56 v57 v58 v59 v60 v61 v62 v63 v64 v65 v66 v67 v68 v69 v70 v71 v72 v73 v74 v75 v76 v77 v78 v79 v80 v81 v82 v83 v84 v85 v86 v87 v88 v89 v90 v91 v92 v93 v94 v95 v96 v97 v98 v99 v100 v101 v102 v103 v104 v105 v106 v107 v108 v109 v110 v111 v112 v113 v114 v115 v116 v117 v118 v119 v120 v121 v122 v123 v124 v125 v126 v127 v128 v129 v130 v131 v132 v133 v134 v135 v136 v137 v138 v139 v140 v141 v142 v143 v144 v145 v146 v147 v148 v149 v150 v151 v152 v153 v154 v155 v156 v157 v158 v159 v160 v161 v162 v163 v164 v165 v166 v167 v168 v169 v170 v171 v172 v173 v174 v175 v176 v177 v178 v179 v180 v181 v182 v183 v184 v185 v186 v187 v188 v189 v190 v191 v192 v193 v194 v195 v196 v197 v198 v199 v200 v201 v202 v203 v204 v205 v206 v207 v208 v209 v210 v211 v212 v213 v214 v215 v216 v217 v218 v219 v220 v221 v222 v223 v224 v225 v226 v227 v228 v229 v230 v231 v232 v233 v234 v235 v236 v237 v238 v239 v240 v241 v242 v243 v244 v245 v246 v247 v248 v249 v250 v251 v252 v253 v254 v255 v256 v257 v258 v259 v260 v261 v262 v263 v264 v265 v266 v267 v268 v269 v270 v271 v272 v273 v274 v275 v276 v277 v278 v436 v437 v438 v439 v440 v441 v442 v443 v444 v445 v446 v447 v448 v449 v450 v451 v452 v453 v454 v455 v456 : Value) (a' : Act) (wx : World) : Prop :=
  ∃ (X Y : Nat), Hid (Sp.Good n m df db D X Y) ∧ Hid (Below base w wx) ∧ ∃ t29 t30 t34 t35 t36 t279 t280 t281 t282 t283 t284 t285 t286 t287 t288 t289 t290 t291 t292 t293 t294 t295 t296 t297 t298 t299 t300 t301 t302 t303 t304 t305 t306 t307 t308 t309 t310 t311 t312 t313 t314 t315 t316 t317 t318 t319 t320 t321 t322 t323 t324 t325 t326 t327 t328 t329 t330 t331 t332 t333 t334 t335 t336 t337 t338 t339 t340 t341 t342 t343 t344 t345 t346 t347 t348 t349 t350 t351 t352 t353 t354 t355 t356 t357 t358 t359 t360 t361 t362 t363 t364 t365 t366 t367 t368 t369 t370 t371 t372 t373 t374 t375 t376 t377 t378 t379 t380 t381 t382 t383 t384 t385 t386 t387 t388 t389 t390 t391 t392 t393 t394 t395 t396 t397 t398 t399 t400 t401 t402 t403 t404 t405 t406 t407 t408 t409 t410 t411 t412 t413 t414 t415 t416 t417 t418 t419 t420 t421 t422 t423 t424 t425 t426 t427 t428 t429 t430 t431 t432 t433 t434 t435 : Value, a' = ⟨List.toArray ((Value.pointer (some ⟨d, 0, none⟩)) :: (Value.int .i64 x0) :: (Value.int .i64 ((x0 : Int) + n)) :: (Value.int .i64 y0) :: (Value.int .i64 ((y0 : Int) + m)) :: v5 :: v6 :: v7 :: v8 :: v9 :: (Value.int .i64 ((x0 : Int) + X)) :: (Value.int .i64 ((y0 : Int) + Y)) :: (Value.bool true) :: (Value.slice (some ⟨ga, x0, none⟩) n cpa) :: (Value.slice (some ⟨gb, y0, none⟩) m cpb) :: (Value.int .i64 n) :: (Value.int .i64 m) :: v17 :: (Value.bool odd) :: v19 :: (Value.int .i64 r) :: (Value.int .i64 ((r : Int) - dl)) :: (Value.slice (some ⟨f, 0, none⟩) (2 * r + 1) (2 * r + 1)) :: (Value.slice (some ⟨b, 0, none⟩) (2 * r + 1) (2 * r + 1)) :: (Value.int .i64 flo) :: (Value.int .i64 fhi) :: (Value.int .i64 blo) :: (Value.int .i64 bhi) :: v28 :: t29 :: t30 :: v31 :: v32 :: v33 :: t34 :: t35 :: t36 :: v37 :: v38 :: v39 :: v40 :: v41 :: v42 :: v43 :: v44 :: v45 :: v46 :: v47 :: v48 :: v49 :: v50 :: v51 :: v52 :: v53 :: v54 :: v55 :: v56 :: v57 :: v58 :: v59 :: v60 :: v61 :: v62 :: v63 :: v64 :: v65 :: v66 :: v67 :: v68 :: v69 :: v70 :: v71 :: v72 :: v73 :: v74 :: v75 :: v76 :: v77 :: v78 :: v79 :: v80 :: v81 :: v82 :: v83 :: v84 :: v85 :: v86 :: v87 :: v88 :: v89 :: v90 :: v91 :: v92 :: v93 :: v94 :: v95 :: v96 :: v97 :: v98 :: v99 :: v100 :: v101 :: v102 :: v103 :: v104 :: v105 :: v106 :: v107 :: v108 :: v109 :: v110 :: v111 :: v112 :: v113 :: v114 :: v115 :: v116 :: v117 :: v118 :: v119 :: v120 :: v121 :: v122 :: v123 :: v124 :: v125 :: v126 :: v127 :: v128 :: v129 :: v130 :: v131 :: v132 :: v133 :: v134 :: v135 :: v136 :: v137 :: v138 :: v139 :: v140 :: v141 :: v142 :: v143 :: v144 :: v145 :: v146 :: v147 :: v148 :: v149 :: v150 :: v151 :: v152 :: v153 :: v154 :: v155 :: v156 :: v157 :: v158 :: v159 :: v160 :: v161 :: v162 :: v163 :: v164 :: v165 :: v166 :: v167 :: v168 :: v169 :: v170 :: v171 :: v172 :: v173 :: v174 :: v175 :: v176 :: v177 :: v178 :: v179 :: v180 :: v181 :: v182 :: v183 :: v184 :: v185 :: v186 :: v187 :: v188 :: v189 :: v190 :: v191 :: v192 :: v193 :: v194 :: v195 :: v196 :: v197 :: v198 :: v199 :: v200 :: v201 :: v202 :: v203 :: v204 :: v205 :: v206 :: v207 :: v208 :: v209 :: v210 :: v211 :: v212 :: v213 :: v214 :: v215 :: v216 :: v217 :: v218 :: v219 :: v220 :: v221 :: v222 :: v223 :: v224 :: v225 :: v226 :: v227 :: v228 :: v229 :: v230 :: v231 :: v232 :: v233 :: v234 :: v235 :: v236 :: v237 :: v238 :: v239 :: v240 :: v241 :: v242 :: v243 :: v244 :: v245 :: v246 :: v247 :: v248 :: v249 :: v250 :: v251 :: v252 :: v253 :: v254 :: v255 :: v256 :: v257 :: v258 :: v259 :: v260 :: v261 :: v262 :: v263 :: v264 :: v265 :: v266 :: v267 :: v268 :: v269 :: v270 :: v271 :: v272 :: v273 :: v274 :: v275 :: v276 :: v277 :: v278 :: t279 :: t280 :: t281 :: t282 :: t283 :: t284 :: t285 :: t286 :: t287 :: t288 :: t289 :: t290 :: t291 :: t292 :: t293 :: t294 :: t295 :: t296 :: t297 :: t298 :: t299 :: t300 :: t301 :: t302 :: t303 :: t304 :: t305 :: t306 :: t307 :: t308 :: t309 :: t310 :: t311 :: t312 :: t313 :: t314 :: t315 :: t316 :: t317 :: t318 :: t319 :: t320 :: t321 :: t322 :: t323 :: t324 :: t325 :: t326 :: t327 :: t328 :: t329 :: t330 :: t331 :: t332 :: t333 :: t334 :: t335 :: t336 :: t337 :: t338 :: t339 :: t340 :: t341 :: t342 :: t343 :: t344 :: t345 :: t346 :: t347 :: t348 :: t349 :: t350 :: t351 :: t352 :: t353 :: t354 :: t355 :: t356 :: t357 :: t358 :: t359 :: t360 :: t361 :: t362 :: t363 :: t364 :: t365 :: t366 :: t367 :: t368 :: t369 :: t370 :: t371 :: t372 :: t373 :: t374 :: t375 :: t376 :: t377 :: t378 :: t379 :: t380 :: t381 :: t382 :: t383 :: t384 :: t385 :: t386 :: t387 :: t388 :: t389 :: t390 :: t391 :: t392 :: t393 :: t394 :: t395 :: t396 :: t397 :: t398 :: t399 :: t400 :: t401 :: t402 :: t403 :: t404 :: t405 :: t406 :: t407 :: t408 :: t409 :: t410 :: t411 :: t412 :: t413 :: t414 :: t415 :: t416 :: t417 :: t418 :: t419 :: t420 :: t421 :: t422 :: t423 :: t424 :: t425 :: t426 :: t427 :: t428 :: t429 :: t430 :: t431 :: t432 :: t433 :: t434 :: t435 :: v436 :: v437 :: v438 :: v439 :: v440 :: v441 :: v442 :: v443 :: v444 :: v445 :: v446 :: v447 :: v448 :: v449 :: v450 :: v451 :: v452 :: v453 :: v454 :: v455 :: v456 :: []), []⟩

set_option maxHeartbeats 16000000 in
set_option maxRecDepth 1000000 in
theorem bwd_loop (code : Code) (hcode : IsBody 3 code) (w : World) (base d f b ga gb la lb cpa cpb x0 y0 n m r : Nat) (dl : Int) (odd : Bool) (df db : Nat → Nat → Nat) (D c : Nat) (flo fhi blo bhi : Int) (F G : Int → Int) (wk : Int) (A B : Nat → Int) (v5 v6 v7 v8 v9 v10 v11 v12 v17 v19 v28 v31 v32 v33 v35 v36 v37 v38 v39 v40 v41 v42 v43 v44 v45 v46 v47 v48 v49 v50 v51 v52 v53 v54 v55 v56 v57 v58 v59 v60 v61 v62 v63 v64 v65 v66 v67 v68 v69 v70 v71 v72 v73 v74 v75 v76 v77 v78 v79 v80 v81 v82 v83 v84 v85 v86 v87 v88 v89 v90 v91 v92 v93 v94 v95 v96 v97 v98 v99 v100 v101 v102 v103 v104 v105 v106 v107 v108 v109 v110 v111 v112 v113 v114 v115 v116 v117 v118 v119 v120 v121 v122 v123 v124 v125 v126 v127 v128 v129 v130 v131 v132 v133 v134 v135 v136 v137 v138 v139 v140 v141 v142 v143 v144 v145 v146 v147 v148 v149 v150 v151 v152 v153 v154 v155 v156 v157 v158 v159 v160 v161 v162 v163 v164 v165 v166 v167 v168 v169 v170 v171 v172 v173 v174 v175 v176 v177 v178 v179 v180 v181 v182 v183 v184 v185 v186 v187 v188 v189 v190 v191 v192 v193 v194 v195 v196 v197 v198 v199 v200 v201 v202 v203 v204 v205 v206 v207 v208 v209 v210 v211 v212 v213 v214 v215 v216 v217 v218 v219 v220 v221 v222 v223 v224 v225 v226 v227 v228 v229 v230 v231 v232 v233 v234 v235 v236 v237 v238 v239 v240 v241 v242 v243 v244 v245 v246 v247 v248 v249 v250 v251 v252 v253 v254 v255 v256 v257 v258 v259 v260 v261 v262 v263 v264 v265 v266 v267 v268 v269 v270 v271 v272 v273 v274 v275 v276 v277 v278 v279 v280 v281 v282 v283 v284 v285 v286 v287 v288 v289 v290 v291 v292 v293 v294 v295 v296 v297 v298 v299 v300 v301 v302 v303 v304 v305 v306 v307 v308 v309 v310 v311 v312 v313 v314 v315 v316 v317 v318 v319 v320 v321 v322 v323 v324 v325 v326 v327 v328 v329 v330 v331 v332 v333 v334 v335 v336 v337 v338 v339 v340 v341 v342 v343 v344 v345 v346 v347 v348 v349 v350 v351 v352 v353 v354 v355 v356 v357 v358 v359 v360 v361 v362 v363 v364 v365 v366 v367 v368 v369 v370 v371 v372 v373 v374 v375 v376 v377 v378 v379 v380 v381 v382 v383 v384 v385 v386 v387 v388 v389 v390 v391 v392 v393 v394 v395 v396 v397 v398 v399 v400 v401 v402 v403 v404 v405 v406 v407 v408 v409 v410 v411 v412 v413 v414 v415 v416 v417 v418 v419 v420 v421 v422 v423 v424 v425 v426 v427 v428 v429 v430 v431 v432 v433 v434 v435 v436 v437 v438 v439 v440 v441 v442 v443 v444 v445 v446 v447 v448 v449 v450 v451 v452 v453 v454 v455 v456 : Value) (Q : Exit → Act → World → Prop) (wr : World)
    (hl1 : n ≤ 4096) (hl2 : m ≤ 4096) (hl3 : x0 ≤ 4096) (hl4 : y0 ≤ 4096) (hr : (n : Int) + m = r) (HDLE : Hid ((n : Int) - m = dl)) (hdl1 : -8192 ≤ dl) (hdl2 : dl ≤ 8192) (hdr : -(r : Int) ≤ dl) (hdr2 : dl ≤ (r : Int))
    (HG : Hid (Sp.Grid n m (fun x y => A x = B y) df db D)) (HD2 : Hid (2 ≤ D)) (HPO : Hid (odd = true ↔ (n + m) % 2 = 1))
    (hga : ga < base) (hgb : gb < base) (HA : Hid (∀ i, i < n → w.cell? ⟨ga, x0 + i, none⟩ = some (.int .i32 (A i)))) (HB : Hid (∀ i, i < m → w.cell? ⟨gb, y0 + i, none⟩ = some (.int .i32 (B i))))
    (HO : Hid (Sp.MI n m df db D c flo fhi blo bhi F G)) (HS : Hid (SM w wr base d f b (.slice (some ⟨ga, 0, none⟩) la la) (.slice (some ⟨gb, 0, none⟩) lb lb) r dl r F G wk)) (hwl : 3000000000000000000 ≤ wk) (hwu : wk ≤ 9223372036854775807)
    (hexit : ∀ a' w'', BX w base d f b ga gb la lb cpa cpb x0 y0 n m r dl odd df db D c flo fhi blo bhi F G wk v5 v6 v7 v8 v9 v17 v19 v28 v31 v32 v33 v37 v38 v39 v40 v41 v42 v43 v44 v45 v46 v47 v48 v49 v50 v51 v52 v53 v54 v55 v56 v57 v58 v59 v60 v61 v62 v63 v64 v65 v66 v67 v68 v69 v70 v71 v72 v73 v74 v75 v76 v77 v78 v79 v80 v81 v82 v83 v84 v85 v86 v87 v88 v89 v90 v91 v92 v93 v94 v95 v96 v97 v98 v99 v100 v101 v102 v103 v104 v105 v106 v107 v108 v109 v110 v111 v112 v113 v114 v115 v116 v117 v118 v119 v120 v121 v122 v123 v124 v125 v126 v127 v128 v129 v130 v131 v132 v133 v134 v135 v136 v137 v138 v139 v140 v141 v142 v143 v144 v145 v146 v147 v148 v149 v150 v151 v152 v153 v154 v155 v156 v157 v158 v159 v160 v161 v162 v163 v164 v165 v166 v167 v168 v169 v170 v171 v172 v173 v174 v175 v176 v177 v178 v179 v180 v181 v182 v183 v184 v185 v186 v187 v188 v189 v190 v191 v192 v193 v194 v195 v196 v197 v198 v199 v200 v201 v202 v203 v204 v205 v206 v207 v208 v209 v210 v211 v212 v213 v214 v215 v216 v217 v218 v219 v220 v221 v222 v223 v224 v225 v226 v227 v228 v229 v230 v231 v232 v233 v234 v235 v236 v237 v238 v239 v240 v241 v242 v243 v244 v245 v246 v247 v248 v249 v250 v251 v252 v253 v254 v255 v256 v257 v258 v259 v260 v261 v262 v263 v264 v265 v266 v267 v268 v269 v270 v271 v272 v273 v274 v275 v276 v277 v278 v436 v437 v438 v439 v440 v441 v442 v443 v444 v445 v446 v447 v448 v449 v450 v451 v452 v453 v454 v455 v456 a' w'' → Q (.exit 6) a' w'')
    (hret : ∀ a' w'', BR w base d f b ga gb la lb cpa cpb x0 y0 n m r dl odd df db D c flo fhi blo bhi F G wk v5 v6 v7 v8 v9 v17 v19 v28 v31 v32 v33 v37 v38 v39 v40 v41 v42 v43 v44 v45 v46 v47 v48 v49 v50 v51 v52 v53 v54 v55 v56 v57 v58 v59 v60 v61 v62 v63 v64 v65 v66 v67 v68 v69 v70 v71 v72 v73 v74 v75 v76 v77 v78 v79 v80 v81 v82 v83 v84 v85 v86 v87 v88 v89 v90 v91 v92 v93 v94 v95 v96 v97 v98 v99 v100 v101 v102 v103 v104 v105 v106 v107 v108 v109 v110 v111 v112 v113 v114 v115 v116 v117 v118 v119 v120 v121 v122 v123 v124 v125 v126 v127 v128 v129 v130 v131 v132 v133 v134 v135 v136 v137 v138 v139 v140 v141 v142 v143 v144 v145 v146 v147 v148 v149 v150 v151 v152 v153 v154 v155 v156 v157 v158 v159 v160 v161 v162 v163 v164 v165 v166 v167 v168 v169 v170 v171 v172 v173 v174 v175 v176 v177 v178 v179 v180 v181 v182 v183 v184 v185 v186 v187 v188 v189 v190 v191 v192 v193 v194 v195 v196 v197 v198 v199 v200 v201 v202 v203 v204 v205 v206 v207 v208 v209 v210 v211 v212 v213 v214 v215 v216 v217 v218 v219 v220 v221 v222 v223 v224 v225 v226 v227 v228 v229 v230 v231 v232 v233 v234 v235 v236 v237 v238 v239 v240 v241 v242 v243 v244 v245 v246 v247 v248 v249 v250 v251 v252 v253 v254 v255 v256 v257 v258 v259 v260 v261 v262 v263 v264 v265 v266 v267 v268 v269 v270 v271 v272 v273 v274 v275 v276 v277 v278 v436 v437 v438 v439 v440 v441 v442 v443 v444 v445 v446 v447 v448 v449 v450 v451 v452 v453 v454 v455 v456 a' w'' → Q .ret a' w'') :
    (Code.loop code).wp Trym.prog Q ⟨List.toArray ((Value.pointer (some ⟨d, 0, none⟩)) :: (Value.int .i64 x0) :: (Value.int .i64 ((x0 : Int) + n)) :: (Value.int .i64 y0) :: (Value.int .i64 ((y0 : Int) + m)) :: v5 :: v6 :: v7 :: v8 :: v9 :: v10 :: v11 :: v12 :: (Value.slice (some ⟨ga, x0, none⟩) n cpa) :: (Value.slice (some ⟨gb, y0, none⟩) m cpb) :: (Value.int .i64 n) :: (Value.int .i64 m) :: v17 :: (Value.bool odd) :: v19 :: (Value.int .i64 r) :: (Value.int .i64 ((r : Int) - dl)) :: (Value.slice (some ⟨f, 0, none⟩) (2 * r + 1) (2 * r + 1)) :: (Value.slice (some ⟨b, 0, none⟩) (2 * r + 1) (2 * r + 1)) :: (Value.int .i64 flo) :: (Value.int .i64 fhi) :: (Value.int .i64 blo) :: (Value.int .i64 bhi) :: v28 :: (Value.int .i64 (blo - 1)) :: (Value.int .i64 (bhi + 1)) :: v31 :: v32 :: v33 :: (Value.int .i64 (blo - 1)) :: v35 :: v36 :: v37 :: v38 :: v39 :: v40 :: v41 :: v42 :: v43 :: v44 :: v45 :: v46 :: v47 :: v48 :: v49 :: v50 :: v51 :: v52 :: v53 :: v54 :: v55 :: v56 :: v57 :: v58 :: v59 :: v60 :: v61 :: v62 :: v63 :: v64 :: v65 :: v66 :: v67 :: v68 :: v69 :: v70 :: v71 :: v72 :: v73 :: v74 :: v75 :: v76 :: v77 :: v78 :: v79 :: v80 :: v81 :: v82 :: v83 :: v84 :: v85 :: v86 :: v87 :: v88 :: v89 :: v90 :: v91 :: v92 :: v93 :: v94 :: v95 :: v96 :: v97 :: v98 :: v99 :: v100 :: v101 :: v102 :: v103 :: v104 :: v105 :: v106 :: v107 :: v108 :: v109 :: v110 :: v111 :: v112 :: v113 :: v114 :: v115 :: v116 :: v117 :: v118 :: v119 :: v120 :: v121 :: v122 :: v123 :: v124 :: v125 :: v126 :: v127 :: v128 :: v129 :: v130 :: v131 :: v132 :: v133 :: v134 :: v135 :: v136 :: v137 :: v138 :: v139 :: v140 :: v141 :: v142 :: v143 :: v144 :: v145 :: v146 :: v147 :: v148 :: v149 :: v150 :: v151 :: v152 :: v153 :: v154 :: v155 :: v156 :: v157 :: v158 :: v159 :: v160 :: v161 :: v162 :: v163 :: v164 :: v165 :: v166 :: v167 :: v168 :: v169 :: v170 :: v171 :: v172 :: v173 :: v174 :: v175 :: v176 :: v177 :: v178 :: v179 :: v180 :: v181 :: v182 :: v183 :: v184 :: v185 :: v186 :: v187 :: v188 :: v189 :: v190 :: v191 :: v192 :: v193 :: v194 :: v195 :: v196 :: v197 :: v198 :: v199 :: v200 :: v201 :: v202 :: v203 :: v204 :: v205 :: v206 :: v207 :: v208 :: v209 :: v210 :: v211 :: v212 :: v213 :: v214 :: v215 :: v216 :: v217 :: v218 :: v219 :: v220 :: v221 :: v222 :: v223 :: v224 :: v225 :: v226 :: v227 :: v228 :: v229 :: v230 :: v231 :: v232 :: v233 :: v234 :: v235 :: v236 :: v237 :: v238 :: v239 :: v240 :: v241 :: v242 :: v243 :: v244 :: v245 :: v246 :: v247 :: v248 :: v249 :: v250 :: v251 :: v252 :: v253 :: v254 :: v255 :: v256 :: v257 :: v258 :: v259 :: v260 :: v261 :: v262 :: v263 :: v264 :: v265 :: v266 :: v267 :: v268 :: v269 :: v270 :: v271 :: v272 :: v273 :: v274 :: v275 :: v276 :: v277 :: v278 :: v279 :: v280 :: v281 :: v282 :: v283 :: v284 :: v285 :: v286 :: v287 :: v288 :: v289 :: v290 :: v291 :: v292 :: v293 :: v294 :: v295 :: v296 :: v297 :: v298 :: v299 :: v300 :: v301 :: v302 :: v303 :: v304 :: v305 :: v306 :: v307 :: v308 :: v309 :: v310 :: v311 :: v312 :: v313 :: v314 :: v315 :: v316 :: v317 :: v318 :: v319 :: v320 :: v321 :: v322 :: v323 :: v324 :: v325 :: v326 :: v327 :: v328 :: v329 :: v330 :: v331 :: v332 :: v333 :: v334 :: v335 :: v336 :: v337 :: v338 :: v339 :: v340 :: v341 :: v342 :: v343 :: v344 :: v345 :: v346 :: v347 :: v348 :: v349 :: v350 :: v351 :: v352 :: v353 :: v354 :: v355 :: v356 :: v357 :: v358 :: v359 :: v360 :: v361 :: v362 :: v363 :: v364 :: v365 :: v366 :: v367 :: v368 :: v369 :: v370 :: v371 :: v372 :: v373 :: v374 :: v375 :: v376 :: v377 :: v378 :: v379 :: v380 :: v381 :: v382 :: v383 :: v384 :: v385 :: v386 :: v387 :: v388 :: v389 :: v390 :: v391 :: v392 :: v393 :: v394 :: v395 :: v396 :: v397 :: v398 :: v399 :: v400 :: v401 :: v402 :: v403 :: v404 :: v405 :: v406 :: v407 :: v408 :: v409 :: v410 :: v411 :: v412 :: v413 :: v414 :: v415 :: v416 :: v417 :: v418 :: v419 :: v420 :: v421 :: v422 :: v423 :: v424 :: v425 :: v426 :: v427 :: v428 :: v429 :: v430 :: v431 :: v432 :: v433 :: v434 :: v435 :: v436 :: v437 :: v438 :: v439 :: v440 :: v441 :: v442 :: v443 :: v444 :: v445 :: v446 :: v447 :: v448 :: v449 :: v450 :: v451 :: v452 :: v453 :: v454 :: v455 :: v456 :: []), []⟩ wr := by
  unfold IsBody at hcode
  conv at hcode => lhs; whnf
  obtain rfl := Option.some.inj hcode
  clear hcode
  have o1 := HO.out.bi.l1
  have o2 := HO.out.bi.h1
  have o3 := HO.out.fi.l1
  have o4 := HO.out.fi.h1
  have o5 := HO.out.low
  have o6 := HG.out.top
  have o7 := Sp.FI.some HG.out.mirror.flip HO.out.bi (by omega)
  have hde := HDLE.out
  have ob1 : -(c : Int) ≤ blo - dl := by omega
  have ob2 : bhi - dl ≤ (c : Int) := by omega
  have ob3 : blo ≤ bhi := by omega
  have hc1 : (c : Int) + 1 ≤ (r : Int) := by omega
  have hrr : (r : Int) ≤ 8192 := by omega
  clear o5 o6 o1 o2 o7 hde
  go_loopg [29, 30, 34] ((bhi + 5 - blo).toNat) (fun gk s29 s30 s34 wx => ∃ (k lo hi : Int) (G' : Int → Int) (wk' : Int), gk = (bhi + 4 - k).toNat ∧ s29 = .int .i64 lo ∧ s30 = .int .i64 hi ∧ s34 = .int .i64 k ∧
    Hid (Sp.BH n m df db D c odd flo fhi blo bhi F G k lo hi G') ∧ Hid (SM w wx base d f b (.slice (some ⟨ga, 0, none⟩) la la) (.slice (some ⟨gb, 0, none⟩) lb lb) r dl r F G' wk') ∧ Hid (wk - 2500 * (k - blo + 1) ≤ wk' ∧ wk' ≤ 9223372036854775807))
  case atStart =>
    exact ⟨_, _, _, G, wk, by omega, rfl, rfl, rfl, Sp.BH.start HG.out HO.out, HS.out, ⟨by omega, hwu⟩⟩
  case round =>
    as_aux_lemma =>
    obtain ⟨k, lo, hi, G', wk', rfl, rfl, rfl, rfl, HF, HS', HW⟩ := hrel
    have k1 : blo - 1 ≤ k := by have := HF.out.rnd.klo; omega
    have k2 : k ≤ bhi + 3 := by have := HF.out.rnd.khi; omega
    have k3 : blo - 1 ≤ lo ∧ lo ≤ blo + 1 := by rcases HF.out.rnd.los with h | h <;> omega
    have k4 : bhi - 1 ≤ hi ∧ hi ≤ bhi + 1 := by rcases HF.out.rnd.his with h | h <;> omega
    obtain ⟨k3a, k3b⟩ := k3
    obtain ⟨k4a, k4b⟩ := k4
    have w1 : 2000000000000000000 ≤ wk' := by have := HW.out; omega
    have w2 : wk' ≤ 9223372036854775807 := HW.out.2
    by_cases hk : k ≤ hi
    · have hin2 : lo ≤ k := by have := HF.out.rnd.inside (by omega); omega
      have hin3 : k ≤ bhi + 1 := by have := HF.out.rnd.inside (by omega); omega
      obtain ⟨i3, hi3⟩ : ∃ i3 : Nat, k + ((r : Int) - dl) = i3 := ⟨(k + ((r : Int) - dl)).toNat, by omega⟩
      have hi3b : (i3 : Int) < 2 * (r : Int) + 1 := by omega
      have A1 : k + 1 ≤ bhi → ∃ i1 : Nat, k + 1 + ((r : Int) - dl) = i1 ∧ (i1 : Int) < 2 * (r : Int) + 1 ∧ wr.cell? ⟨b, i1, none⟩ = some (.int .i64 (G' (k + 1))) ∧ 0 ≤ G' (k + 1) ∧ G' (k + 1) ≤ n := by
        intro h1
        have hkp := HF.out.rnd.kp
        have e := HF.out.same (j := k + 1) (by omega)
        obtain ⟨s1, s2, s3, s4, s5⟩ := HO.out.bi.at_ (k := k + 1) (by omega) h1 (by omega)
        exact ⟨(k + 1 + ((r : Int) - dl)).toNat, by omega, by omega, HS'.out.atG _ (k + 1) (by omega) (by omega), by omega, by omega⟩
      have A2 : blo ≤ k - 1 → ∃ i2 : Nat, k - 1 + ((r : Int) - dl) = i2 ∧ (i2 : Int) < 2 * (r : Int) + 1 ∧ wr.cell? ⟨b, i2, none⟩ = some (.int .i64 (G' (k - 1))) ∧ 0 ≤ G' (k - 1) ∧ G' (k - 1) ≤ n := by
        intro h1
        have hkp := HF.out.rnd.kp
        have e := HF.out.same (j := k - 1) (by omega)
        obtain ⟨s1, s2, s3, s4, s5⟩ := HO.out.bi.at_ (k := k - 1) h1 (by omega) (by omega)
        exact ⟨(k - 1 + ((r : Int) - dl)).toNat, by omega, by omega, HS'.out.atG _ (k - 1) (by omega) (by omega), by omega, by omega⟩
      have HA1 := hidIt A1
      have HA2 := hidIt A2
      clear A1 A2
      go_upto_region 41 with fail
      go_cut [300] from 279 to 435 (fun s300 wy => s300 = .bool (decide (k + 1 ≤ bhi ∧ 0 ≤ G' (k + 1) - 1)) ∧ wr = wy)
      case first =>
        as_aux_lemma =>
        by_cases h1 : k + 1 ≤ bhi
        · obtain ⟨i1, e1, e2, e3, e4, e5⟩ := HA1.out h1
          by_cases h2 : 1 ≤ G' (k + 1)
          · as_aux_lemma =>
            have HD := hidIt (decide_eq_true (p := k + 1 ≤ bhi ∧ 0 ≤ G' (k + 1) - 1) ⟨h1, by omega⟩)
            go_wp2
            go_meet
            case rel => exact ⟨congrArg Value.bool HD.out.symm, rfl⟩
          · as_aux_lemma =>
            have HD := hidIt (decide_eq_false (p := k + 1 ≤ bhi ∧ 0 ≤ G' (k + 1) - 1) (fun e => h2 (by have := e.2; omega)))
            go_wp2
            go_meet
            case rel => exact ⟨congrArg Value.bool HD.out.symm, rfl⟩
        · as_aux_lemma =>
          have HD := hidIt (decide_eq_false (p := k + 1 ≤ bhi ∧ 0 ≤ G' (k + 1) - 1) (fun e => h1 e.1))
          go_wp2
          go_meet
          case rel => exact ⟨congrArg Value.bool HD.out.symm, rfl⟩
      case rest =>
        as_aux_lemma =>
        obtain ⟨rfl, rfl⟩ := hcut
        generalize hb1 : decide (k + 1 ≤ bhi ∧ 0 ≤ G' (k + 1) - 1) = t1
        have HB1 := hidIt hb1
        clear hb1
        go_upto_if 300 with fail
        go_cut [35] from 279 to 435 (fun s35 wy => s35 = .int .i64 (Sp.candB1 n bhi G' k) ∧ wr = wy)
        case first =>
          as_aux_lemma =>
          cases t1
          · as_aux_lemma =>
            have HX : Hid (Sp.candB1 n bhi G' k = (n : Int) + 1) := by
              show _ = _
              unfold Sp.candB1
              rw [if_neg (of_decide_eq_false HB1.out)]
            go_wp2
            go_meet
            case rel => exact ⟨congrArg (Value.int .i64) HX.out.symm, rfl⟩
          · as_aux_lemma =>
            have hx := of_decide_eq_true HB1.out
            have HX : Hid (Sp.candB1 n bhi G' k = G' (k + 1) - 1) := by
              show _ = _
              unfold Sp.candB1
              rw [if_pos hx]
            obtain ⟨i1, e1, e2, e3, e4, e5⟩ := HA1.out hx.1
            clear hx
            go_wp2
            go_meet
            case rel => exact ⟨congrArg (Value.int .i64) HX.out.symm, rfl⟩
        case rest =>
          as_aux_lemma =>
          obtain ⟨rfl, rfl⟩ := hcut
          have z1 : 0 ≤ Sp.candB1 n bhi G' k ∧ Sp.candB1 n bhi G' k ≤ (n : Int) + 1 := by
            unfold Sp.candB1
            split
            · rename_i hx
              obtain ⟨i1, e1, e2, e3, e4, e5⟩ := HA1.out hx.1
              omega
            · omega
          obtain ⟨z1, z2⟩ := z1
          generalize hx1 : Sp.candB1 n bhi G' k = x1 at z1 z2 ⊢
          have HX1 := hidIt hx1
          clear hx1 HB1
          go_upto_region 43 with fail
          go_cut [335] from 279 to 435 (fun s335 wy => s335 = .bool (decide (blo ≤ k - 1 ∧ 0 ≤ G' (k - 1) - k ∧ G' (k - 1) < x1)) ∧ wr = wy)
          case first =>
            as_aux_lemma =>
            by_cases h1 : blo ≤ k - 1
            · obtain ⟨i2, e1, e2, e3, e4, e5⟩ := HA2.out h1
              by_cases h2 : 0 ≤ G' (k - 1) - k
              · by_cases h3 : G' (k - 1) < x1
                · as_aux_lemma =>
                  have HD := hidIt (decide_eq_true (p := blo ≤ k - 1 ∧ 0 ≤ G' (k - 1) - k ∧ G' (k - 1) < x1) ⟨h1, h2, h3⟩)
                  go_wp2
                  go_meet
                  case rel => exact ⟨congrArg Value.bool HD.out.symm, rfl⟩
                · as_aux_lemma =>
                  have HD := hidIt (decide_eq_false (p := blo ≤ k - 1 ∧ 0 ≤ G' (k - 1) - k ∧ G' (k - 1) < x1) (fun e => h3 e.2.2))
                  go_wp2
                  go_meet
                  case rel => exact ⟨congrArg Value.bool HD.out.symm, rfl⟩
              · as_aux_lemma =>
                have HD := hidIt (decide_eq_false (p := blo ≤ k - 1 ∧ 0 ≤ G' (k - 1) - k ∧ G' (k - 1) < x1) (fun e => h2 e.2.1))
                go_wp2
                go_meet
                case rel => exact ⟨congrArg Value.bool HD.out.symm, rfl⟩
            · as_aux_lemma =>
              have HD := hidIt (decide_eq_false (p := blo ≤ k - 1 ∧ 0 ≤ G' (k - 1) - k ∧ G' (k - 1) < x1) (fun e => h1 e.1))
              go_wp2
              go_meet
              case rel => exact ⟨congrArg Value.bool HD.out.symm, rfl⟩
          case rest =>
            as_aux_lemma =>
            obtain ⟨rfl, rfl⟩ := hcut
            generalize hb2 : decide (blo ≤ k - 1 ∧ 0 ≤ G' (k - 1) - k ∧ G' (k - 1) < x1) = t2
            have HB2 := hidIt hb2
            clear hb2
            go_upto_if 335 with fail
            go_cut [35] from 279 to 435 (fun s35 wy => s35 = .int .i64 (Sp.candB n blo bhi G' k) ∧ wr = wy)
            case first =>
              as_aux_lemma =>
              cases t2
              · as_aux_lemma =>
                have HX : Hid (Sp.candB n blo bhi G' k = x1) := by
                  show _ = _
                  unfold Sp.candB
                  rw [HX1.out, if_neg (of_decide_eq_false HB2.out)]
                go_wp2
                go_meet
                case rel => exact ⟨congrArg (Value.int .i64) HX.out.symm, rfl⟩
              · as_aux_lemma =>
                have hx := of_decide_eq_true HB2.out
                have HX : Hid (Sp.candB n blo bhi G' k = G' (k - 1)) := by
                  show _ = _
                  unfold Sp.candB
                  rw [HX1.out, if_pos hx]
                obtain ⟨i2, e1, e2, e3, e4, e5⟩ := HA2.out hx.1
                clear hx
                go_wp2
                go_meet
                case rel => exact ⟨congrArg (Value.int .i64) HX.out.symm, rfl⟩
            case rest =>
              as_aux_lemma =>
              obtain ⟨rfl, rfl⟩ := hcut
              have Z3 : Hid (Sp.candB n blo bhi G' k ≤ (n : Int) + 1) := by
                show _ ≤ _
                unfold Sp.candB
                rw [HX1.out]
                split
                · omega
                · exact z2
              clear HX1 HB2 HA1 HA2 z1 z2
              have HCS : Hid (Sp.candB n blo bhi G' k ≤ n → 0 ≤ Sp.candB n blo bhi G' k ∧ 0 ≤ Sp.candB n blo bhi G' k - k ∧ Sp.candB n blo bhi G' k - k ≤ m) := fun h => HF.out.cs HG.out HO.out hk h
              have z3 : Sp.candB n blo bhi G' k ≤ (n : Int) + 1 := Z3.out
              have z4 : -10000 ≤ Sp.candB n blo bhi G' k := by
                by_cases h : Sp.candB n blo bhi G' k ≤ n
                · have := HCS.out h; omega
                · omega
              clear Z3
              generalize hxs : Sp.candB n blo bhi G' k = xs at HCS z3 z4 ⊢
              have HXS := hidIt hxs
              clear hxs
              by_cases hx : (n : Int) < xs
              · as_aux_lemma =>
                obtain ⟨lo2, hi2, HLH⟩ : ∃ lo2 hi2 : Int, Hid (lo2 = (if k = lo then lo + 2 else lo) ∧ hi2 = (if k = lo then hi else hi - 2)) := ⟨_, _, rfl, rfl⟩
                have HBL := hidIt (HF.out.blocked HG.out HO.out hk (by rw [HXS.out]; exact hx))
                rw [← HLH.out.1, ← HLH.out.2] at HBL
                have BC : Calls Trym.prog 36 #[.int .i64 k, .int .i64 lo, .int .i64 hi] wr fun e w' => e = .returned (.tuple #[.int .i64 lo2, .int .i64 hi2]) ∧ w' = wr := by
                  have h := beyond_any k lo hi wr (by omega) (by omega) (by omega) (by omega)
                  rw [← HLH.out.1, ← HLH.out.2] at h
                  exact h
                go_wp2_with (go_at_call 36; refine BC.mono ?_; rintro e wy ⟨rfl, rfl⟩)
                go_roundg ((bhi + 4 - (k + 2)).toNat)
                case measure => omega
                case rel => exact ⟨k + 2, lo2, hi2, G', wk', rfl, rfl, rfl, by go_num, HBL.out, HS'.out, ⟨by have := HW.out; omega, w2⟩⟩
              · as_aux_lemma =>
                obtain ⟨q1, q2, q3⟩ := HCS.out (by omega)
                obtain ⟨X0, hX0⟩ : ∃ X0 : Nat, xs = X0 := ⟨xs.toNat, by omega⟩
                subst hX0
                obtain ⟨Y0, hY0⟩ : ∃ Y0 : Nat, (X0 : Int) - k = Y0 := ⟨((X0 : Int) - k).toNat, by omega⟩
                have q4 : (Y0 : Int) ≤ m := by omega
                have q5 : (X0 : Int) ≤ n := by omega
                clear HCS q2 q3 q1 z3 z4
                go_wp2
                have HY0 := hidIt hY0
                clear hY0
                go_loopg [35, 36] (X0 + 1) (fun gk s35 s36 wy => ∃ (X Y : Nat) (wz : Int), gk = X + 1 ∧ s35 = .int .i64 X ∧ s36 = .int .i64 Y ∧ Hid (X ≤ X0 ∧ Y ≤ m ∧ (X : Int) - k = Y ∧ Sp.Run (fun x y => A x = B y) k X X0) ∧
                  Hid (SM w wy base d f b (.slice (some ⟨ga, 0, none⟩) la la) (.slice (some ⟨gb, 0, none⟩) lb lb) r dl r F G' wz) ∧ Hid (wk' - ((X0 : Int) - X) ≤ wz ∧ wz ≤ wk'))
                case atStart =>
                  exact ⟨X0, Y0, wk', rfl, rfl, rfl, ⟨Nat.le_refl _, by omega, HY0.out, ⟨Int.le_refl _, fun s h1 h2 => by omega⟩⟩, HS'.out, ⟨by omega, by omega⟩⟩
                case round =>
                  as_aux_lemma =>
                  obtain ⟨X, Y, wz, rfl, rfl, rfl, HR, HS2, HW2⟩ := hrel
                  have r1 : (X : Int) ≤ X0 := by have := HR.out.1; omega
                  have r2 : (Y : Int) ≤ m := by have := HR.out.2.1; omega
                  have r4 : 1000000000000000000 ≤ wz := by have := HW2.out; omega
                  have r5 : wz ≤ 9223372036854775807 := by have := HW2.out; omega
                  go_upto_region 48 with fail
                  go_cut [374] from 356 to 385 (fun s374 wv => s374 = .bool (decide (0 < (X : Int) ∧ 0 < (Y : Int) ∧ A (X - 1) = B (Y - 1))) ∧ ∃ nq, wr.drewN nq = wv)
                  case first =>
                    as_aux_lemma =>
                    by_cases h1 : 0 < (X : Int)
                    · have n1 : 0 < X := by omega
                      have m1 : decide (0 < X) = true := decide_eq_true n1
                      by_cases h2 : 0 < (Y : Int)
                      · have n2 : 0 < Y := by omega
                        have m2 : decide (0 < Y) = true := decide_eq_true n2
                        obtain ⟨p, hp⟩ : ∃ p : Nat, (X : Int) - 1 = p := ⟨X - 1, by omega⟩
                        obtain ⟨q, hq⟩ : ∃ q : Nat, (Y : Int) - 1 = q := ⟨Y - 1, by omega⟩
                        have HP : Hid (X - 1 = p ∧ Y - 1 = q) := ⟨by omega, by omega⟩
                        have pb : (p : Int) < n := by omega
                        have qb : (q : Int) < m := by omega
                        have ca : wr.cell? ⟨ga, x0 + p, none⟩ = some (.int .i32 (A p)) := by
                          rw [HS2.out.bel.cell (p := ⟨ga, x0 + p, none⟩) hga]
                          exact HA.out p (by omega)
                        have cb : wr.cell? ⟨gb, y0 + q, none⟩ = some (.int .i32 (B q)) := by
                          rw [HS2.out.bel.cell (p := ⟨gb, y0 + q, none⟩) hgb]
                          exact HB.out q (by omega)
                        by_cases h3 : A p = B q
                        · as_aux_lemma =>
                          have h3b : (A p == B q) = true := by simp [h3]
                          have HD := hidIt (decide_eq_true (p := 0 < (X : Int) ∧ 0 < (Y : Int) ∧ A (X - 1) = B (Y - 1)) ⟨h1, h2, by rw [HP.out.1, HP.out.2]; exact h3⟩)
                          clear h3
                          go_quiet (fail)
                          go_wp2
                          go_meet
                          case rel => exact ⟨congrArg Value.bool HD.out.symm, _, rfl⟩
                        · as_aux_lemma =>
                          have h3b : (A p == B q) = false := by simp [h3]
                          have HD := hidIt (decide_eq_false (p := 0 < (X : Int) ∧ 0 < (Y : Int) ∧ A (X - 1) = B (Y - 1)) (fun e => h3 (by have e2 := e.2.2; rw [HP.out.1, HP.out.2] at e2; exact e2)))
                          clear h3
                          go_quiet (fail)
                          go_wp2
                          go_meet
                          case rel => exact ⟨congrArg Value.bool HD.out.symm, _, rfl⟩
                      · as_aux_lemma =>
                        have n2 : ¬ 0 < Y := by omega
                        have m2 : decide (0 < Y) = false := decide_eq_false n2
                        have HD := hidIt (decide_eq_false (p := 0 < (X : Int) ∧ 0 < (Y : Int) ∧ A (X - 1) = B (Y - 1)) (fun e => h2 e.2.1))
                        clear h2 n2
                        go_quiet (fail)
                        go_wp2
                        go_meet
                        case rel => exact ⟨congrArg Value.bool HD.out.symm, _, rfl⟩
                    · as_aux_lemma =>
                      have n1 : ¬ 0 < X := by omega
                      have m1 : decide (0 < X) = false := decide_eq_false n1
                      have HD := hidIt (decide_eq_false (p := 0 < (X : Int) ∧ 0 < (Y : Int) ∧ A (X - 1) = B (Y - 1)) (fun e => h1 e.1))
                      clear h1 n1
                      go_quiet (fail)
                      go_wp2
                      go_meet
                      case rel => exact ⟨congrArg Value.bool HD.out.symm, _, rfl⟩
                  case rest =>
                    as_aux_lemma =>
                    obtain ⟨rfl, nq, rfl⟩ := hcut
                    have HS3 := hidIt (HS2.out.drewN nq)
                    clear HS2
                    generalize wr.drewN nq = wd at HS3 ⊢
                    generalize hb3 : decide (0 < (X : Int) ∧ 0 < (Y : Int) ∧ A (X - 1) = B (Y - 1)) = t3
                    have HB3 := hidIt hb3
                    clear hb3
                    have d5 := HS3.out.field 5
                    simp only [List.getElem?_toArray, List.getElem?_cons_succ, List.getElem?_cons_zero] at d5
                    have d6 : wd.frozen? ⟨d, 5, none⟩ = false := free_of_block HS3.out.blk 5
                    cases t3
                    · as_aux_lemma =>
                      have cf := HS3.out.atG i3 k (by omega) (by omega)
                      have ff := HS3.out.bw.frozen i3
                      have hdf : d ≠ b := HS3.out.db
                      have hfd : b ≠ d := fun e => hdf e.symm
                      go_upto_region 53 with fail
                      have HS4 := hidIt ((HS3.out.work (wz - 1)).setG i3 k X (by omega))
                      clear HS3 cf ff d5 d6
                      generalize (wd.setCell ⟨d, 5, none⟩ (.int .i64 (wz - 1))).setCell ⟨b, i3, none⟩ (.int .i64 X) = we at HS4 ⊢
                      go_cut [420] from 279 to 435 (fun s420 wv => s420 = .bool (decide (odd = false ∧ flo ≤ k ∧ k ≤ fhi ∧ X ≤ F k)) ∧ we = wv)
                      case first =>
                        as_aux_lemma =>
                        cases odd
                        · by_cases h1 : flo ≤ k
                          · by_cases h2 : k ≤ fhi
                            · have HJ : ∃ j3 : Nat, k + (r : Int) = j3 ∧ (j3 : Int) < 2 * (r : Int) + 1 := ⟨(k + (r : Int)).toNat, by omega, by omega⟩
                              obtain ⟨j3, j1, j2⟩ := HJ
                              have cg := HS4.out.atF j3 k (by omega) (by omega)
                              by_cases h3 : X ≤ F k
                              · as_aux_lemma =>
                                have HD := hidIt (decide_eq_true (p := false = false ∧ flo ≤ k ∧ k ≤ fhi ∧ X ≤ F k) ⟨rfl, h1, h2, h3⟩)
                                go_wp2
                                go_meet
                                case rel => exact ⟨congrArg Value.bool HD.out.symm, rfl⟩
                              · as_aux_lemma =>
                                have HD := hidIt (decide_eq_false (p := false = false ∧ flo ≤ k ∧ k ≤ fhi ∧ X ≤ F k) (fun e => h3 e.2.2.2))
                                go_wp2
                                go_meet
                                case rel => exact ⟨congrArg Value.bool HD.out.symm, rfl⟩
                            · as_aux_lemma =>
                              have HD := hidIt (decide_eq_false (p := false = false ∧ flo ≤ k ∧ k ≤ fhi ∧ X ≤ F k) (fun e => h2 e.2.2.1))
                              go_wp2
                              go_meet
                              case rel => exact ⟨congrArg Value.bool HD.out.symm, rfl⟩
                          · as_aux_lemma =>
                            have HD := hidIt (decide_eq_false (p := false = false ∧ flo ≤ k ∧ k ≤ fhi ∧ X ≤ F k) (fun e => h1 e.2.1))
                            go_wp2
                            go_meet
                            case rel => exact ⟨congrArg Value.bool HD.out.symm, rfl⟩
                        · as_aux_lemma =>
                          have HD := hidIt (decide_eq_false (p := true = false ∧ flo ≤ k ∧ k ≤ fhi ∧ X ≤ F k) (fun e => by cases e.1))
                          go_wp2
                          go_meet
                          case rel => exact ⟨congrArg Value.bool HD.out.symm, rfl⟩
                      case rest =>
                        as_aux_lemma =>
                        obtain ⟨rfl, rfl⟩ := hcut
                        generalize hb4 : decide (odd = false ∧ flo ≤ k ∧ k ≤ fhi ∧ X ≤ F k) = t4
                        have HB4 := hidIt hb4
                        clear hb4
                        have HST : Hid (0 < (X : Int) → 0 < (X : Int) - k → ¬ (fun x y => A x = B y) ((X : Int) - 1).toNat ((X : Int) - 1 - k).toNat) := by
                          intro s1 s2 s3
                          have e3 := of_decide_eq_false HB3.out
                          have e4 := HR.out.2.2.1
                          have s3' : A ((X : Int) - 1).toNat = B ((X : Int) - 1 - k).toNat := s3
                          rw [show ((X : Int) - 1).toNat = X - 1 from by omega, show ((X : Int) - 1 - k).toNat = Y - 1 from by omega] at s3'
                          exact e3 ⟨s1, by omega, s3'⟩
                        cases t4
                        · as_aux_lemma =>
                          have HN : Hid (Sp.BH n m df db D c odd flo fhi blo bhi F G (k + 2) lo hi (fun j => if j = k then (X : Int) else G' j)) := by
                            have e4 := of_decide_eq_false HB4.out
                            have e5 := HR.out.2.2.1
                            exact HF.out.free HG.out HO.out hk (by rw [HXS.out]; omega) (by omega) (by omega) (by rw [HXS.out]; exact HR.out.2.2.2) HST.out (fun ho h1 h2 => by
                              by_cases h3 : X ≤ F k
                              · exact absurd ⟨ho, h1, h2, h3⟩ e4
                              · omega)
                          go_wp2
                          go_roundg ((bhi + 4 - (k + 2)).toNat)
                          case measure => omega
                          case rel =>
                            exact ⟨k + 2, lo, hi, _, wz - 1, rfl, rfl, rfl, by go_num, HN.out, HS4.out, ⟨by have := HW.out; have := HW2.out; omega, by omega⟩⟩
                        · as_aux_lemma =>
                          have HN : Hid (Sp.Good n m df db D X Y) := by
                            obtain ⟨e1, e2, e3, e4⟩ := of_decide_eq_true HB4.out
                            have e5 := HR.out.2.2.1
                            have hgd := HF.out.meet HG.out HPO.out HO.out hk (by rw [HXS.out]; omega) (by omega) (by omega) (by rw [HXS.out]; exact HR.out.2.2.2) HST.out e1 e2 e3 e4
                            rw [show ((X : Int)).toNat = X from by omega, show ((X : Int) - k).toNat = Y from by omega] at hgd
                            exact hgd
                          have HI1 : Hid (¬ ((x0 : Int) + X = x0 ∧ (y0 : Int) + Y = y0)) := by
                            intro e; exact HN.out.2.2.2.1 ⟨by omega, by omega⟩
                          have HI2 : Hid (¬ ((x0 : Int) + X = (x0 : Int) + n ∧ (y0 : Int) + Y = (y0 : Int) + m)) := by
                            intro e; exact HN.out.2.2.2.2 ⟨by omega, by omega⟩
                          go_wp2_with (go_at_call 37; refine (inside_any _ _ _ _ _ _ _ _ HI1.out HI2.out).mono ?_; rintro e wy ⟨rfl, rfl⟩)
                          refine ⟨X, Y, HN.out, HS4.out.bel, ?_⟩
                          (repeat apply Exists.intro)
                          rfl
                    · as_aux_lemma =>
                      have e3 := of_decide_eq_true HB3.out
                      obtain ⟨e3a, e3b, e3c⟩ := e3
                      have HE3 := hidIt e3c
                      clear e3c
                      obtain ⟨p, hp⟩ : ∃ p : Nat, (X : Int) - 1 = p := ⟨X - 1, by omega⟩
                      obtain ⟨q, hq⟩ : ∃ q : Nat, (Y : Int) - 1 = q := ⟨Y - 1, by omega⟩
                      go_wp2
                      have HS4 := hidIt (HS3.out.work (wz - 1))
                      go_roundg (p + 1)
                      case measure => omega
                      case rel =>
                        refine ⟨p, q, wz - 1, rfl, rfl, rfl, ⟨by omega, by omega, by have := HR.out.2.2.1; omega, ?_⟩, HS4.out, ⟨by have := HW2.out; omega, by have := HW2.out; omega⟩⟩
                        obtain ⟨u1, u2⟩ := HR.out.2.2.2
                        refine ⟨by omega, fun s s1 s2 => ?_⟩
                        by_cases es : (X : Int) ≤ s
                        · exact u2 s es s2
                        · have := HR.out.2.2.1
                          have esX : s = (p : Int) := by omega
                          have e3 := HE3.out
                          show A _ = B _
                          rw [show X - 1 = p from by omega, show Y - 1 = q from by omega] at e3
                          rw [esX, show ((p : Int)).toNat = p from by omega, show ((p : Int) - k).toNat = q from by omega]
                          exact e3
    · as_aux_lemma =>
      go_wp2
      refine hexit _ _ ⟨lo, hi, G', wk', HF.out.done HG.out HPO.out HO.out (by omega), HS'.out, ⟨by have := HW.out; omega, w2⟩, ?_⟩
      (repeat apply Exists.intro)
      rfl

end Go.Proofs.Qxb6602525aMods
