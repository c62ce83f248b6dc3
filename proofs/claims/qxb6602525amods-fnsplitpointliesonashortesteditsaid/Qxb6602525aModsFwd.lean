/-
  The forward half of a round of 'split', walked. (The frames were typed by a program.)
-/
import Derived.Test.Qxb6602525aModsSplitMem
import Derived.Test.Qxb6602525aModsMeet
import Derived.Deep.DeepCutAuto
import Derived.Deep.LoopGhost
namespace Go.Proofs.Qxb6602525aMods
open Go.RowKit
set_option linter.unusedVariables false

def loopsIn : Code → List Code
  | .loop c => c :: loopsIn c
  | .seq a b => loopsIn a ++ loopsIn b
  | .block _ c => loopsIn c
  | .scope c => loopsIn c
  | .cond _ a b => loopsIn a ++ loopsIn b
  | _ => []
def IsBody (i : Nat) (c : Code) : Prop := ((Trym.f29.body.map loopsIn).getD [])[i]? = some c

set_option maxRecDepth 1000000 in
def FX (w : World) (base d f b ga gb la lb cpa cpb x0 y0 n m r : Nat) (dl : Int) (odd : Bool) (df db : Nat → Nat → Nat) (D c : Nat) (flo fhi blo bhi : Int) (F G : Int → Int) (wk : Int) (v5 v6 v7 v8 v9 v17 v19 v28 v34 v35 v36 v37 v38 v39 v40 v41 v42 v43 v44 v45 v46 v47 v48 v49 v50 v51 v52 v53 v54 v55 v56 v57 v58 v59 v60 v61 v62 v63 v64 v65 v66 v67 v68 v69 v70 v71 v72 v73 v74 v75 v76 v77 v78 v79 v80 v81 v82 v83 v84 v85 v86 v87 v88 v89 v90 v91 v92 v93 v94 v95 v96 v97 v98 v99 v100 v101 v102 v103 v104 v105 v106 v107 v108 v109 v110 v111 v112 v113 v114 v115 v272 v273 v274 v275 v276 v277 v278 v279 v280 v281 v282 v283 v284 v285 v286 v287 v288 v289 v290 v291 v292 v293 v294 v295 v296 v297 v298 v299 v300 v301 v302 v303 v304 v305 v306 v307 v308 v309 v310 v311 v312 v313 v314 v315 v316 v317 v318 v319 v320 v321 v322 v323 v324 v325 v326 v327 v328 v329 v330 v331 v332 v333 v334 v335 v336 v337 v338 v339 v340 v341 v342 v343 v344 v345 v346 v347 v348 v349 v350 v351 v352 v353 v354 v355 v356 v357 v358 v359 v360 v361 v362 v363 v364 v365 v366 v367 v368 v369 v370 v371 v372 v373 v374 v375 v376 v377 v378 v379 v380 v381 v382 v383 v384 v385 v386 v387 v388 v389 v390 v391 v392 v393 v394 v395 v396 v397 v398 v399 v400 v401 v402 v403 v404 v405 v406 v407 v408 v409 v410 v411 v412 v413 v414 v415 v416 v417 v418 v419 v420 v421 v422 v423 v424 v425 v426 v427 v428 v429 v430 v431 v432 v433 v434 v435 v436 v437 v438 v439 v440 v441 v442 v443 v444 v445 v446 v447 v448 v449 v450 v451 v452 v453 v454 v455 v456 : Value) (a' : Act) (wx : World) : Prop :=
  ∃ (lo hi : Int) (F' : Int → Int) (wk' : Int), Hid (Sp.MI n m df db D c lo hi blo bhi F' G) ∧ Hid (SM w wx base d f b (.slice (some ⟨ga, 0, none⟩) la la) (.slice (some ⟨gb, 0, none⟩) lb lb) r dl r F' G wk') ∧ Hid (wk - 45000000 ≤ wk' ∧ wk' ≤ 9223372036854775807) ∧ ∃ t10 t11 t12 t31 t32 t33 t116 t117 t118 t119 t120 t121 t122 t123 t124 t125 t126 t127 t128 t129 t130 t131 t132 t133 t134 t135 t136 t137 t138 t139 t140 t141 t142 t143 t144 t145 t146 t147 t148 t149 t150 t151 t152 t153 t154 t155 t156 t157 t158 t159 t160 t161 t162 t163 t164 t165 t166 t167 t168 t169 t170 t171 t172 t173 t174 t175 t176 t177 t178 t179 t180 t181 t182 t183 t184 t185 t186 t187 t188 t189 t190 t191 t192 t193 t194 t195 t196 t197 t198 t199 t200 t201 t202 t203 t204 t205 t206 t207 t208 t209 t210 t211 t212 t213 t214 t215 t216 t217 t218 t219 t220 t221 t222 t223 t224 t225 t226 t227 t228 t229 t230 t231 t232 t233 t234 t235 t236 t237 t238 t239 t240 t241 t242 t243 t244 t245 t246 t247 t248 t249 t250 t251 t252 t253 t254 t255 t256 t257 t258 t259 t260 t261 t262 t263 t264 t265 t266 t267 t268 t269 t270 t271 : Value, a' = ⟨List.toArray ((Value.pointer (some ⟨d, 0, none⟩)) :: (Value.int .i64 x0) :: (Value.int .i64 ((x0 : Int) + n)) :: (Value.int .i64 y0) :: (Value.int .i64 ((y0 : Int) + m)) :: v5 :: v6 :: v7 :: v8 :: v9 :: t10 :: t11 :: t12 :: (Value.slice (some ⟨ga, x0, none⟩) n cpa) :: (Value.slice (some ⟨gb, y0, none⟩) m cpb) :: (Value.int .i64 n) :: (Value.int .i64 m) :: v17 :: (Value.bool odd) :: v19 :: (Value.int .i64 r) :: (Value.int .i64 ((r : Int) - dl)) :: (Value.slice (some ⟨f, 0, none⟩) (2 * r + 1) (2 * r + 1)) :: (Value.slice (some ⟨b, 0, none⟩) (2 * r + 1) (2 * r + 1)) :: (Value.int .i64 flo) :: (Value.int .i64 fhi) :: (Value.int .i64 blo) :: (Value.int .i64 bhi) :: v28 :: (Value.int .i64 lo) :: (Value.int .i64 hi) :: t31 :: t32 :: t33 :: v34 :: v35 :: v36 :: v37 :: v38 :: v39 :: v40 :: v41 :: v42 :: v43 :: v44 :: v45 :: v46 :: v47 :: v48 :: v49 :: v50 :: v51 :: v52 :: v53 :: v54 :: v55 :: v56 :: v57 :: v58 :: v59 :: v60 :: v61 :: v62 :: v63 :: v64 :: v65 :: v66 :: v67 :: v68 :: v69 :: v70 :: v71 :: v72 :: v73 :: v74 :: v75 :: v76 :: v77 :: v78 :: v79 :: v80 :: v81 :: v82 :: v83 :: v84 :: v85 :: v86 :: v87 :: v88 :: v89 :: v90 :: v91 :: v92 :: v93 :: v94 :: v95 :: v96 :: v97 :: v98 :: v99 :: v100 :: v101 :: v102 :: v103 :: v104 :: v105 :: v106 :: v107 :: v108 :: v109 :: v110 :: v111 :: v112 :: v113 :: v114 :: v115 :: t116 :: t117 :: t118 :: t119 :: t120 :: t121 :: t122 :: t123 :: t124 :: t125 :: t126 :: t127 :: t128 :: t129 :: t130 :: t131 :: t132 :: t133 :: t134 :: t135 :: t136 :: t137 :: t138 :: t139 :: t140 :: t141 :: t142 :: t143 :: t144 :: t145 :: t146 :: t147 :: t148 :: t149 :: t150 :: t151 :: t152 :: t153 :: t154 :: t155 :: t156 :: t157 :: t158 :: t159 :: t160 :: t161 :: t162 :: t163 :: t164 :: t165 :: t166 :: t167 :: t168 :: t169 :: t170 :: t171 :: t172 :: t173 :: t174 :: t175 :: t176 :: t177 :: t178 :: t179 :: t180 :: t181 :: t182 :: t183 :: t184 :: t185 :: t186 :: t187 :: t188 :: t189 :: t190 :: t191 :: t192 :: t193 :: t194 :: t195 :: t196 :: t197 :: t198 :: t199 :: t200 :: t201 :: t202 :: t203 :: t204 :: t205 :: t206 :: t207 :: t208 :: t209 :: t210 :: t211 :: t212 :: t213 :: t214 :: t215 :: t216 :: t217 :: t218 :: t219 :: t220 :: t221 :: t222 :: t223 :: t224 :: t225 :: t226 :: t227 :: t228 :: t229 :: t230 :: t231 :: t232 :: t233 :: t234 :: t235 :: t236 :: t237 :: t238 :: t239 :: t240 :: t241 :: t242 :: t243 :: t244 :: t245 :: t246 :: t247 :: t248 :: t249 :: t250 :: t251 :: t252 :: t253 :: t254 :: t255 :: t256 :: t257 :: t258 :: t259 :: t260 :: t261 :: t262 :: t263 :: t264 :: t265 :: t266 :: t267 :: t268 :: t269 :: t270 :: t271 :: v272 :: v273 :: v274 :: v275 :: v276 :: v277 :: v278 :: v279 :: v280 :: v281 :: v282 :: v283 :: v284 :: v285 :: v286 :: v287 :: v288 :: v289 :: v290 :: v291 :: v292 :: v293 :: v294 :: v295 :: v296 :: v297 :: v298 :: v299 :: v300 :: v301 :: v302 :: v303 :: v304 :: v305 :: v306 :: v307 :: v308 :: v309 :: v310 :: v311 :: v312 :: v313 :: v314 :: v315 :: v316 :: v317 :: v318 :: v319 :: v320 :: v321 :: v322 :: v323 :: v324 :: v325 :: v326 :: v327 :: v328 :: v329 :: v330 :: v331 :: v332 :: v333 :: v334 :: v335 :: v336 :: v337 :: v338 :: v339 :: v340 :: v341 :: v342 :: v343 :: v344 :: v345 :: v346 :: v347 :: v348 :: v349 :: v350 :: v351 :: v352 :: v353 :: v354 :: v355 :: v356 :: v357 :: v358 :: v359 :: v360 :: v361 :: v362 :: v363 :: v364 :: v365 :: v366 :: v367 :: v368 :: v369 :: v370 :: v371 :: v372 :: v373 :: v374 :: v375 :: v376 :: v377 :: v378 :: v379 :: v380 :: v381 :: v382 :: v383 :: v384 :: v385 :: v386 :: v387 :: v388 :: v389 :: v390 :: v391 :: v392 :: v393 :: v394 :: v395 :: v396 :: v397 :: v398 :: v399 :: v400 :: v401 :: v402 :: v403 :: v404 :: v405 :: v406 :: v407 :: v408 :: v409 :: v410 :: v411 :: v412 :: v413 :: v414 :: v415 :: v416 :: v417 :: v418 :: v419 :: v420 :: v421 :: v422 :: v423 :: v424 :: v425 :: v426 :: v427 :: v428 :: v429 :: v430 :: v431 :: v432 :: v433 :: v434 :: v435 :: v436 :: v437 :: v438 :: v439 :: v440 :: v441 :: v442 :: v443 :: v444 :: v445 :: v446 :: v447 :: v448 :: v449 :: v450 :: v451 :: v452 :: v453 :: v454 :: v455 :: v456 :: []), []⟩
set_option maxRecDepth 1000000 in
def FR (w : World) (base d f b ga gb la lb cpa cpb x0 y0 n m r : Nat) (dl : Int) (odd : Bool) (df db : Nat → Nat → Nat) (D c : Nat) (flo fhi blo bhi : Int) (F G : Int → Int) (wk : Int) (v5 v6 v7 v8 v9 v17 v19 v28 v34 v35 v36 v37 v38 v39 v40 v41 v42 v43 v44 v45 v46 v47 v48 v49 v50 v51 v52 v53 v54 v55 v56 v57 v58 v59 v60 v61 v62 v63 v64 v65 v66 v67 v68 v69 v70 v71 v72 v73 v74 v75 v76 v77 v78 v79 v80 v81 v82 v83 v84 v85 v86 v87 v88 v89 v90 v91 v92 v93 v94 v95 v96 v97 v98 v99 v100 v101 v102 v103 v104 v105 v106 v107 v108 v109 v110 v111 v112 v113 v114 v115 v272 v273 v274 v275 v276 v277 v278 v279 v280 v281 v282 v283 v284 v285 v286 v287 v288 v289 v290 v291 v292 v293 v294 v295 v296 v297 v298 v299 v300 v301 v302 v303 v304 v305 v306 v307 v308 v309 v310 v311 v312 v313 v314 v315 v316 v317 v318 v319 v320 v321 v322 v323 v324 v325 v326 v327 v328 v329 v330 v331 v332 v333 v334 v335 v336 v337 v338 v339 v340 v341 v342 v343 v344 v345 v346 v347 v348 v349 v350 v351 v352 v353 v354 v355 v356 v357 v358 v359 v360 v361 v362 v363 v364 v365 v366 v367 v368 v369 v370 v371 v372 v373 v374 v375 v376 v377 v378 v379 v380 v381 v382 v383 v384 v385 v386 v387 v388 v389 v390 v391 v392 v393 v394 v395 v396 v397 v398 v399 v400 v401 v402 v403 v404 v405 v406 v407 v408 v409 v410 v411 v412 v413 v414 v415 v416 v417 v418 v419 v420 v421 v422 v423 v424 v425 v426 v427 v428 v429 v430 v431 v432 v433 v434 v435 v436 v437 v438 v439 v440 v441 v442 v443 v444 v445 v446 v447 v448 v449 v450 v451 v452 v453 v454 v455 v456 : Value) (a' : Act) (wx : World) : Prop :=
  ∃ (X Y : Nat), Hid (Sp.Good n m df db D X Y) ∧ Hid (Below base w wx) ∧ ∃ t29 t30 t31 t32 t33 t116 t117 t118 t119 t120 t121 t122 t123 t124 t125 t126 t127 t128 t129 t130 t131 t132 t133 t134 t135 t136 t137 t138 t139 t140 t141 t142 t143 t144 t145 t146 t147 t148 t149 t150 t151 t152 t153 t154 t155 t156 t157 t158 t159 t160 t161 t162 t163 t164 t165 t166 t167 t168 t169 t170 t171 t172 t173 t174 t175 t176 t177 t178 t179 t180 t181 t182 t183 t184 t185 t186 t187 t188 t189 t190 t191 t192 t193 t194 t195 t196 t197 t198 t199 t200 t201 t202 t203 t204 t205 t206 t207 t208 t209 t210 t211 t212 t213 t214 t215 t216 t217 t218 t219 t220 t221 t222 t223 t224 t225 t226 t227 t228 t229 t230 t231 t232 t233 t234 t235 t236 t237 t238 t239 t240 t241 t242 t243 t244 t245 t246 t247 t248 t249 t250 t251 t252 t253 t254 t255 t256 t257 t258 t259 t260 t261 t262 t263 t264 t265 t266 t267 t268 t269 t270 t271 : Value, a' = ⟨List.toArray ((Value.pointer (some ⟨d, 0, none⟩)) :: (Value.int .i64 x0) :: (Value.int .i64 ((x0 : Int) + n)) :: (Value.int .i64 y0) :: (Value.int .i64 ((y0 : Int) + m)) :: v5 :: v6 :: v7 :: v8 :: v9 :: (Value.int .i64 ((x0 : Int) + X)) :: (Value.int .i64 ((y0 : Int) + Y)) :: (Value.bool true) :: (Value.slice (some ⟨ga, x0, none⟩) n cpa) :: (Value.slice (some ⟨gb, y0, none⟩) m cpb) :: (Value.int .i64 n) :: (Value.int .i64 m) :: v17 :: (Value.bool odd) :: v19 :: (Value.int .i64 r) :: (Value.int .i64 ((r : Int) - dl)) :: (Value.slice (some ⟨f, 0, none⟩) (2 * r + 1) (2 * r + 1)) :: (Value.slice (some ⟨b, 0, none⟩) (2 * r + 1) (2 * r + 1)) :: (Value.int .i64 flo) :: (Value.int .i64 fhi) :: (Value.int .i64 blo) :: (Value.int .i64 bhi) :: v28 :: t29 :: t30 :: t31 :: t32 :: t33 :: v34 :: v35 :: v36 :: v37 :: v38 :: v39 :: v40 :: v41 :: v42 :: v43 :: v44 :: v45 :: v46 :: v47 :: v48 :: v49 :: v50 :: v51 :: v52 :: v53 :: v54 :: v55 :: v56 :: v57 :: v58 :: v59 :: v60 :: v61 :: v62 :: v63 :: v64 :: v65 :: v66 :: v67 :: v68 :: v69 :: v70 :: v71 :: v72 :: v73 :: v74 :: v75 :: v76 :: v77 :: v78 :: v79 :: v80 :: v81 :: v82 :: v83 :: v84 :: v85 :: v86 :: v87 :: v88 :: v89 :: v90 :: v91 :: v92 :: v93 :: v94 :: v95 :: v96 :: v97 :: v98 :: v99 :: v100 :: v101 :: v102 :: v103 :: v104 :: v105 :: v106 :: v107 :: v108 :: v109 :: v110 :: v111 :: v112 :: v113 :: v114 :: v115 :: t116 :: t117 :: t118 :: t119 :: t120 :: t121 :: t122 :: t123 :: t124 :: t125 :: t126 :: t127 :: t128 :: t129 :: t130 :: t131 :: t132 :: t133 :: t134 :: t135 :: t136 :: t137 :: t138 :: t139 :: t140 :: t141 :: t142 :: t143 :: t144 :: t145 :: t146 :: t147 :: t148 :: t149 :: t150 :: t151 :: t152 :: t153 :: t154 :: t155 :: t156 :: t157 :: t158 :: t159 :: t160 :: t161 :: t162 :: t163 :: t164 :: t165 :: t166 :: t167 :: t168 :: t169 :: t170 :: t171 :: t172 :: t173 :: t174 :: t175 :: t176 :: t177 :: t178 :: t179 :: t180 :: t181 :: t182 :: t183 :: t184 :: t185 :: t186 :: t187 :: t188 :: t189 :: t190 :: t191 :: t192 :: t193 :: t194 :: t195 :: t196 :: t197 :: t198 :: t199 :: t200 :: t201 :: t202 :: t203 :: t204 :: t205 :: t206 :: t207 :: t208 :: t209 :: t210 :: t211 :: t212 :: t213 :: t214 :: t215 :: t216 :: t217 :: t218 :: t219 :: t220 :: t221 :: t222 :: t223 :: t224 :: t225 :: t226 :: t227 :: t228 :: t229 :: t230 :: t231 :: t232 :: t233 :: t234 :: t235 :: t236 :: t237 :: t238 :: t239 :: t240 :: t241 :: t242 :: t243 :: t244 :: t245 :: t246 :: t247 :: t248 :: t249 :: t250 :: t251 :: t252 :: t253 :: t254 :: t255 :: t256 :: t257 :: t258 :: t259 :: t260 :: t261 :: t262 :: t263 :: t264 :: t265 :: t266 :: t267 :: t268 :: t269 :: t270 :: t271 :: v272 :: v273 :: v274 :: v275 :: v276 :: v277 :: v278 :: v279 :: v280 :: v281 :: v282 :: v283 :: v284 :: v285 :: v286 :: v287 :: v288 :: v289 :: v290 :: v291 :: v292 :: v293 :: v294 :: v295 :: v296 :: v297 :: v298 :: v299 :: v300 :: v301 :: v302 :: v303 :: v304 :: v305 :: v306 :: v307 :: v308 :: v309 :: v310 :: v311 :: v312 :: v313 :: v314 :: v315 :: v316 :: v317 :: v318 :: v319 :: v320 :: v321 :: v322 :: v323 :: v324 :: v325 :: v326 :: v327 :: v328 :: v329 :: v330 :: v331 :: v332 :: v333 :: v334 :: v335 :: v336 :: v337 :: v338 :: v339 :: v340 :: v341 :: v342 :: v343 :: v344 :: v345 :: v346 :: v347 :: v348 :: v349 :: v350 :: v351 :: v352 :: v353 :: v354 :: v355 :: v356 :: v357 :: v358 :: v359 :: v360 :: v361 :: v362 :: v363 :: v364 :: v365 :: v366 :: v367 :: v368 :: v369 :: v370 :: v371 :: v372 :: v373 :: v374 :: v375 :: v376 :: v377 :: v378 :: v379 :: v380 :: v381 :: v382 :: v383 :: v384 :: v385 :: v386 :: v387 :: v388 :: v389 :: v390 :: v391 :: v392 :: v393 :: v394 :: v395 :: v396 :: v397 :: v398 :: v399 :: v400 :: v401 :: v402 :: v403 :: v404 :: v405 :: v406 :: v407 :: v408 :: v409 :: v410 :: v411 :: v412 :: v413 :: v414 :: v415 :: v416 :: v417 :: v418 :: v419 :: v420 :: v421 :: v422 :: v423 :: v424 :: v425 :: v426 :: v427 :: v428 :: v429 :: v430 :: v431 :: v432 :: v433 :: v434 :: v435 :: v436 :: v437 :: v438 :: v439 :: v440 :: v441 :: v442 :: v443 :: v444 :: v445 :: v446 :: v447 :: v448 :: v449 :: v450 :: v451 :: v452 :: v453 :: v454 :: v455 :: v456 :: []), []⟩

set_option maxHeartbeats 16000000 in
set_option maxRecDepth 1000000 in
theorem fwd_loop (code : Code) (hcode : IsBody 1 code) (w : World) (base d f b ga gb la lb cpa cpb x0 y0 n m r : Nat) (dl : Int) (odd : Bool) (df db : Nat → Nat → Nat) (D c : Nat) (flo fhi blo bhi : Int) (F G : Int → Int) (wk : Int) (A B : Nat → Int) (v5 v6 v7 v8 v9 v10 v11 v12 v17 v19 v28 v32 v33 v34 v35 v36 v37 v38 v39 v40 v41 v42 v43 v44 v45 v46 v47 v48 v49 v50 v51 v52 v53 v54 v55 v56 v57 v58 v59 v60 v61 v62 v63 v64 v65 v66 v67 v68 v69 v70 v71 v72 v73 v74 v75 v76 v77 v78 v79 v80 v81 v82 v83 v84 v85 v86 v87 v88 v89 v90 v91 v92 v93 v94 v95 v96 v97 v98 v99 v100 v101 v102 v103 v104 v105 v106 v107 v108 v109 v110 v111 v112 v113 v114 v115 v116 v117 v118 v119 v120 v121 v122 v123 v124 v125 v126 v127 v128 v129 v130 v131 v132 v133 v134 v135 v136 v137 v138 v139 v140 v141 v142 v143 v144 v145 v146 v147 v148 v149 v150 v151 v152 v153 v154 v155 v156 v157 v158 v159 v160 v161 v162 v163 v164 v165 v166 v167 v168 v169 v170 v171 v172 v173 v174 v175 v176 v177 v178 v179 v180 v181 v182 v183 v184 v185 v186 v187 v188 v189 v190 v191 v192 v193 v194 v195 v196 v197 v198 v199 v200 v201 v202 v203 v204 v205 v206 v207 v208 v209 v210 v211 v212 v213 v214 v215 v216 v217 v218 v219 v220 v221 v222 v223 v224 v225 v226 v227 v228 v229 v230 v231 v232 v233 v234 v235 v236 v237 v238 v239 v240 v241 v242 v243 v244 v245 v246 v247 v248 v249 v250 v251 v252 v253 v254 v255 v256 v257 v258 v259 v260 v261 v262 v263 v264 v265 v266 v267 v268 v269 v270 v271 v272 v273 v274 v275 v276 v277 v278 v279 v280 v281 v282 v283 v284 v285 v286 v287 v288 v289 v290 v291 v292 v293 v294 v295 v296 v297 v298 v299 v300 v301 v302 v303 v304 v305 v306 v307 v308 v309 v310 v311 v312 v313 v314 v315 v316 v317 v318 v319 v320 v321 v322 v323 v324 v325 v326 v327 v328 v329 v330 v331 v332 v333 v334 v335 v336 v337 v338 v339 v340 v341 v342 v343 v344 v345 v346 v347 v348 v349 v350 v351 v352 v353 v354 v355 v356 v357 v358 v359 v360 v361 v362 v363 v364 v365 v366 v367 v368 v369 v370 v371 v372 v373 v374 v375 v376 v377 v378 v379 v380 v381 v382 v383 v384 v385 v386 v387 v388 v389 v390 v391 v392 v393 v394 v395 v396 v397 v398 v399 v400 v401 v402 v403 v404 v405 v406 v407 v408 v409 v410 v411 v412 v413 v414 v415 v416 v417 v418 v419 v420 v421 v422 v423 v424 v425 v426 v427 v428 v429 v430 v431 v432 v433 v434 v435 v436 v437 v438 v439 v440 v441 v442 v443 v444 v445 v446 v447 v448 v449 v450 v451 v452 v453 v454 v455 v456 : Value) (Q : Exit → Act → World → Prop) (wr : World)
    (hl1 : n ≤ 4096) (hl2 : m ≤ 4096) (hl3 : x0 ≤ 4096) (hl4 : y0 ≤ 4096) (hr : (n : Int) + m = r) (HDLE : Hid ((n : Int) - m = dl)) (hdl1 : -8192 ≤ dl) (hdl2 : dl ≤ 8192) (hdr : -(r : Int) ≤ dl) (hdr2 : dl ≤ (r : Int))
    (HG : Hid (Sp.Grid n m (fun x y => A x = B y) df db D)) (HD2 : Hid (2 ≤ D)) (HPO : Hid (odd = true ↔ (n + m) % 2 = 1))
    (hga : ga < base) (hgb : gb < base) (HA : Hid (∀ i, i < n → w.cell? ⟨ga, x0 + i, none⟩ = some (.int .i32 (A i)))) (HB : Hid (∀ i, i < m → w.cell? ⟨gb, y0 + i, none⟩ = some (.int .i32 (B i))))
    (HO : Hid (Sp.OI n m df db D c flo fhi blo bhi F G)) (HS : Hid (SM w wr base d f b (.slice (some ⟨ga, 0, none⟩) la la) (.slice (some ⟨gb, 0, none⟩) lb lb) r dl r F G wk)) (hwl : 3000000000000000000 ≤ wk) (hwu : wk ≤ 9223372036854775807)
    (hexit : ∀ a' w'', FX w base d f b ga gb la lb cpa cpb x0 y0 n m r dl odd df db D c flo fhi blo bhi F G wk v5 v6 v7 v8 v9 v17 v19 v28 v34 v35 v36 v37 v38 v39 v40 v41 v42 v43 v44 v45 v46 v47 v48 v49 v50 v51 v52 v53 v54 v55 v56 v57 v58 v59 v60 v61 v62 v63 v64 v65 v66 v67 v68 v69 v70 v71 v72 v73 v74 v75 v76 v77 v78 v79 v80 v81 v82 v83 v84 v85 v86 v87 v88 v89 v90 v91 v92 v93 v94 v95 v96 v97 v98 v99 v100 v101 v102 v103 v104 v105 v106 v107 v108 v109 v110 v111 v112 v113 v114 v115 v272 v273 v274 v275 v276 v277 v278 v279 v280 v281 v282 v283 v284 v285 v286 v287 v288 v289 v290 v291 v292 v293 v294 v295 v296 v297 v298 v299 v300 v301 v302 v303 v304 v305 v306 v307 v308 v309 v310 v311 v312 v313 v314 v315 v316 v317 v318 v319 v320 v321 v322 v323 v324 v325 v326 v327 v328 v329 v330 v331 v332 v333 v334 v335 v336 v337 v338 v339 v340 v341 v342 v343 v344 v345 v346 v347 v348 v349 v350 v351 v352 v353 v354 v355 v356 v357 v358 v359 v360 v361 v362 v363 v364 v365 v366 v367 v368 v369 v370 v371 v372 v373 v374 v375 v376 v377 v378 v379 v380 v381 v382 v383 v384 v385 v386 v387 v388 v389 v390 v391 v392 v393 v394 v395 v396 v397 v398 v399 v400 v401 v402 v403 v404 v405 v406 v407 v408 v409 v410 v411 v412 v413 v414 v415 v416 v417 v418 v419 v420 v421 v422 v423 v424 v425 v426 v427 v428 v429 v430 v431 v432 v433 v434 v435 v436 v437 v438 v439 v440 v441 v442 v443 v444 v445 v446 v447 v448 v449 v450 v451 v452 v453 v454 v455 v456 a' w'' → Q (.exit 2) a' w'')
    (hret : ∀ a' w'', FR w base d f b ga gb la lb cpa cpb x0 y0 n m r dl odd df db D c flo fhi blo bhi F G wk v5 v6 v7 v8 v9 v17 v19 v28 v34 v35 v36 v37 v38 v39 v40 v41 v42 v43 v44 v45 v46 v47 v48 v49 v50 v51 v52 v53 v54 v55 v56 v57 v58 v59 v60 v61 v62 v63 v64 v65 v66 v67 v68 v69 v70 v71 v72 v73 v74 v75 v76 v77 v78 v79 v80 v81 v82 v83 v84 v85 v86 v87 v88 v89 v90 v91 v92 v93 v94 v95 v96 v97 v98 v99 v100 v101 v102 v103 v104 v105 v106 v107 v108 v109 v110 v111 v112 v113 v114 v115 v272 v273 v274 v275 v276 v277 v278 v279 v280 v281 v282 v283 v284 v285 v286 v287 v288 v289 v290 v291 v292 v293 v294 v295 v296 v297 v298 v299 v300 v301 v302 v303 v304 v305 v306 v307 v308 v309 v310 v311 v312 v313 v314 v315 v316 v317 v318 v319 v320 v321 v322 v323 v324 v325 v326 v327 v328 v329 v330 v331 v332 v333 v334 v335 v336 v337 v338 v339 v340 v341 v342 v343 v344 v345 v346 v347 v348 v349 v350 v351 v352 v353 v354 v355 v356 v357 v358 v359 v360 v361 v362 v363 v364 v365 v366 v367 v368 v369 v370 v371 v372 v373 v374 v375 v376 v377 v378 v379 v380 v381 v382 v383 v384 v385 v386 v387 v388 v389 v390 v391 v392 v393 v394 v395 v396 v397 v398 v399 v400 v401 v402 v403 v404 v405 v406 v407 v408 v409 v410 v411 v412 v413 v414 v415 v416 v417 v418 v419 v420 v421 v422 v423 v424 v425 v426 v427 v428 v429 v430 v431 v432 v433 v434 v435 v436 v437 v438 v439 v440 v441 v442 v443 v444 v445 v446 v447 v448 v449 v450 v451 v452 v453 v454 v455 v456 a' w'' → Q .ret a' w'') :
    (Code.loop code).wp Trym.prog Q ⟨List.toArray ((Value.pointer (some ⟨d, 0, none⟩)) :: (Value.int .i64 x0) :: (Value.int .i64 ((x0 : Int) + n)) :: (Value.int .i64 y0) :: (Value.int .i64 ((y0 : Int) + m)) :: v5 :: v6 :: v7 :: v8 :: v9 :: v10 :: v11 :: v12 :: (Value.slice (some ⟨ga, x0, none⟩) n cpa) :: (Value.slice (some ⟨gb, y0, none⟩) m cpb) :: (Value.int .i64 n) :: (Value.int .i64 m) :: v17 :: (Value.bool odd) :: v19 :: (Value.int .i64 r) :: (Value.int .i64 ((r : Int) - dl)) :: (Value.slice (some ⟨f, 0, none⟩) (2 * r + 1) (2 * r + 1)) :: (Value.slice (some ⟨b, 0, none⟩) (2 * r + 1) (2 * r + 1)) :: (Value.int .i64 flo) :: (Value.int .i64 fhi) :: (Value.int .i64 blo) :: (Value.int .i64 bhi) :: v28 :: (Value.int .i64 (flo - 1)) :: (Value.int .i64 (fhi + 1)) :: (Value.int .i64 (flo - 1)) :: v32 :: v33 :: v34 :: v35 :: v36 :: v37 :: v38 :: v39 :: v40 :: v41 :: v42 :: v43 :: v44 :: v45 :: v46 :: v47 :: v48 :: v49 :: v50 :: v51 :: v52 :: v53 :: v54 :: v55 :: v56 :: v57 :: v58 :: v59 :: v60 :: v61 :: v62 :: v63 :: v64 :: v65 :: v66 :: v67 :: v68 :: v69 :: v70 :: v71 :: v72 :: v73 :: v74 :: v75 :: v76 :: v77 :: v78 :: v79 :: v80 :: v81 :: v82 :: v83 :: v84 :: v85 :: v86 :: v87 :: v88 :: v89 :: v90 :: v91 :: v92 :: v93 :: v94 :: v95 :: v96 :: v97 :: v98 :: v99 :: v100 :: v101 :: v102 :: v103 :: v104 :: v105 :: v106 :: v107 :: v108 :: v109 :: v110 :: v111 :: v112 :: v113 :: v114 :: v115 :: v116 :: v117 :: v118 :: v119 :: v120 :: v121 :: v122 :: v123 :: v124 :: v125 :: v126 :: v127 :: v128 :: v129 :: v130 :: v131 :: v132 :: v133 :: v134 :: v135 :: v136 :: v137 :: v138 :: v139 :: v140 :: v141 :: v142 :: v143 :: v144 :: v145 :: v146 :: v147 :: v148 :: v149 :: v150 :: v151 :: v152 :: v153 :: v154 :: v155 :: v156 :: v157 :: v158 :: v159 :: v160 :: v161 :: v162 :: v163 :: v164 :: v165 :: v166 :: v167 :: v168 :: v169 :: v170 :: v171 :: v172 :: v173 :: v174 :: v175 :: v176 :: v177 :: v178 :: v179 :: v180 :: v181 :: v182 :: v183 :: v184 :: v185 :: v186 :: v187 :: v188 :: v189 :: v190 :: v191 :: v192 :: v193 :: v194 :: v195 :: v196 :: v197 :: v198 :: v199 :: v200 :: v201 :: v202 :: v203 :: v204 :: v205 :: v206 :: v207 :: v208 :: v209 :: v210 :: v211 :: v212 :: v213 :: v214 :: v215 :: v216 :: v217 :: v218 :: v219 :: v220 :: v221 :: v222 :: v223 :: v224 :: v225 :: v226 :: v227 :: v228 :: v229 :: v230 :: v231 :: v232 :: v233 :: v234 :: v235 :: v236 :: v237 :: v238 :: v239 :: v240 :: v241 :: v242 :: v243 :: v244 :: v245 :: v246 :: v247 :: v248 :: v249 :: v250 :: v251 :: v252 :: v253 :: v254 :: v255 :: v256 :: v257 :: v258 :: v259 :: v260 :: v261 :: v262 :: v263 :: v264 :: v265 :: v266 :: v267 :: v268 :: v269 :: v270 :: v271 :: v272 :: v273 :: v274 :: v275 :: v276 :: v277 :: v278 :: v279 :: v280 :: v281 :: v282 :: v283 :: v284 :: v285 :: v286 :: v287 :: v288 :: v289 :: v290 :: v291 :: v292 :: v293 :: v294 :: v295 :: v296 :: v297 :: v298 :: v299 :: v300 :: v301 :: v302 :: v303 :: v304 :: v305 :: v306 :: v307 :: v308 :: v309 :: v310 :: v311 :: v312 :: v313 :: v314 :: v315 :: v316 :: v317 :: v318 :: v319 :: v320 :: v321 :: v322 :: v323 :: v324 :: v325 :: v326 :: v327 :: v328 :: v329 :: v330 :: v331 :: v332 :: v333 :: v334 :: v335 :: v336 :: v337 :: v338 :: v339 :: v340 :: v341 :: v342 :: v343 :: v344 :: v345 :: v346 :: v347 :: v348 :: v349 :: v350 :: v351 :: v352 :: v353 :: v354 :: v355 :: v356 :: v357 :: v358 :: v359 :: v360 :: v361 :: v362 :: v363 :: v364 :: v365 :: v366 :: v367 :: v368 :: v369 :: v370 :: v371 :: v372 :: v373 :: v374 :: v375 :: v376 :: v377 :: v378 :: v379 :: v380 :: v381 :: v382 :: v383 :: v384 :: v385 :: v386 :: v387 :: v388 :: v389 :: v390 :: v391 :: v392 :: v393 :: v394 :: v395 :: v396 :: v397 :: v398 :: v399 :: v400 :: v401 :: v402 :: v403 :: v404 :: v405 :: v406 :: v407 :: v408 :: v409 :: v410 :: v411 :: v412 :: v413 :: v414 :: v415 :: v416 :: v417 :: v418 :: v419 :: v420 :: v421 :: v422 :: v423 :: v424 :: v425 :: v426 :: v427 :: v428 :: v429 :: v430 :: v431 :: v432 :: v433 :: v434 :: v435 :: v436 :: v437 :: v438 :: v439 :: v440 :: v441 :: v442 :: v443 :: v444 :: v445 :: v446 :: v447 :: v448 :: v449 :: v450 :: v451 :: v452 :: v453 :: v454 :: v455 :: v456 :: []), []⟩ wr := by
  unfold IsBody at hcode
  conv at hcode => lhs; whnf
  obtain rfl := Option.some.inj hcode
  clear hcode
  have o1 := HO.out.fi.l1
  have o2 := HO.out.fi.h1
  have o5 := HO.out.low
  have o6 := HG.out.top
  have o7 := HO.out.fi.some HG.out (by omega)
  have hc1 : (c : Int) + 1 ≤ (r : Int) := by omega
  have hrr : (r : Int) ≤ 8192 := by omega
  clear o5 o6
  go_loopg [29, 30, 31] ((fhi + 5 - flo).toNat) (fun gk s29 s30 s31 wx => ∃ (k lo hi : Int) (F' : Int → Int) (wk' : Int), gk = (fhi + 4 - k).toNat ∧ s29 = .int .i64 lo ∧ s30 = .int .i64 hi ∧ s31 = .int .i64 k ∧
    Hid (Sp.FH n m df db D c odd flo fhi blo bhi F G k lo hi F') ∧ Hid (SM w wx base d f b (.slice (some ⟨ga, 0, none⟩) la la) (.slice (some ⟨gb, 0, none⟩) lb lb) r dl r F' G wk') ∧ Hid (wk - 2500 * (k - flo + 1) ≤ wk' ∧ wk' ≤ 9223372036854775807))
  case atStart =>
    exact ⟨_, _, _, F, wk, by omega, rfl, rfl, rfl, Sp.FH.start HG.out HO.out, HS.out, ⟨by omega, hwu⟩⟩
  case round =>
    as_aux_lemma =>
    obtain ⟨k, lo, hi, F', wk', rfl, rfl, rfl, rfl, HF, HS', HW⟩ := hrel
    have k1 : flo - 1 ≤ k := HF.out.rnd.klo
    have k2 : k ≤ fhi + 3 := HF.out.rnd.khi
    have k3 : flo - 1 ≤ lo ∧ lo ≤ flo + 1 := by rcases HF.out.rnd.los with h | h <;> omega
    have k4 : fhi - 1 ≤ hi ∧ hi ≤ fhi + 1 := by rcases HF.out.rnd.his with h | h <;> omega
    obtain ⟨k3a, k3b⟩ := k3
    obtain ⟨k4a, k4b⟩ := k4
    have w1 : 2000000000000000000 ≤ wk' := by have := HW.out; omega
    have w2 : wk' ≤ 9223372036854775807 := HW.out.2
    by_cases hk : k ≤ hi
    · have hin2 : lo ≤ k := (HF.out.rnd.inside hk).2.1
      have hin3 : k ≤ fhi + 1 := (HF.out.rnd.inside hk).2.2
      obtain ⟨i3, hi3⟩ : ∃ i3 : Nat, k + (r : Int) = i3 := ⟨(k + r).toNat, by omega⟩
      have hi3b : (i3 : Int) < 2 * (r : Int) + 1 := by omega
      have A1 : k + 1 ≤ fhi → ∃ i1 : Nat, k + 1 + (r : Int) = i1 ∧ (i1 : Int) < 2 * (r : Int) + 1 ∧ wr.cell? ⟨f, i1, none⟩ = some (.int .i64 (F' (k + 1))) ∧ 0 ≤ F' (k + 1) ∧ F' (k + 1) ≤ n := by
        intro h1
        have hkp := HF.out.rnd.kp
        have e := HF.out.rnd.same (k + 1) (by omega)
        obtain ⟨s1, s2, s3, s4, s5⟩ := HO.out.fi.snd (k + 1) (by omega) h1 (by omega)
        exact ⟨(k + 1 + r).toNat, by omega, by omega, HS'.out.atF _ (k + 1) (by omega) (by omega), by omega, by omega⟩
      have A2 : flo ≤ k - 1 → ∃ i2 : Nat, k - 1 + (r : Int) = i2 ∧ (i2 : Int) < 2 * (r : Int) + 1 ∧ wr.cell? ⟨f, i2, none⟩ = some (.int .i64 (F' (k - 1))) ∧ 0 ≤ F' (k - 1) ∧ F' (k - 1) ≤ n := by
        intro h1
        have hkp := HF.out.rnd.kp
        have e := HF.out.rnd.same (k - 1) (by omega)
        obtain ⟨s1, s2, s3, s4, s5⟩ := HO.out.fi.snd (k - 1) h1 (by omega) (by omega)
        exact ⟨(k - 1 + r).toNat, by omega, by omega, HS'.out.atF _ (k - 1) (by omega) (by omega), by omega, by omega⟩
      have HA1 := hidIt A1
      have HA2 := hidIt A2
      clear A1 A2
      go_upto_region 21 with fail
      go_cut [137] from 116 to 271 (fun s137 wy => s137 = .bool (decide (k + 1 ≤ fhi ∧ F' (k + 1) - k ≤ m)) ∧ wr = wy)
      case first =>
        as_aux_lemma =>
        by_cases h1 : k + 1 ≤ fhi
        · obtain ⟨i1, e1, e2, e3, e4, e5⟩ := HA1.out h1
          by_cases h2 : F' (k + 1) - k ≤ m
          · as_aux_lemma =>
            have HD := hidIt (decide_eq_true (p := k + 1 ≤ fhi ∧ F' (k + 1) - k ≤ (m : Int)) ⟨h1, h2⟩)
            go_wp2
            go_meet
            case rel => exact ⟨congrArg Value.bool HD.out.symm, rfl⟩
          · as_aux_lemma =>
            have HD := hidIt (decide_eq_false (p := k + 1 ≤ fhi ∧ F' (k + 1) - k ≤ (m : Int)) (fun e => h2 e.2))
            go_wp2
            go_meet
            case rel => exact ⟨congrArg Value.bool HD.out.symm, rfl⟩
        · as_aux_lemma =>
          have HD := hidIt (decide_eq_false (p := k + 1 ≤ fhi ∧ F' (k + 1) - k ≤ (m : Int)) (fun e => h1 e.1))
          go_wp2
          go_meet
          case rel => exact ⟨congrArg Value.bool HD.out.symm, rfl⟩
      case rest =>
        as_aux_lemma =>
        obtain ⟨rfl, rfl⟩ := hcut
        generalize hb1 : decide (k + 1 ≤ fhi ∧ F' (k + 1) - k ≤ (m : Int)) = t1
        have HB1 := hidIt hb1
        clear hb1
        go_upto_if 137 with fail
        go_cut [32] from 116 to 271 (fun s32 wy => s32 = .int .i64 (Sp.cand1 m fhi F' k) ∧ wr = wy)
        case first =>
          as_aux_lemma =>
          cases t1
          · as_aux_lemma =>
            have HX : Hid (Sp.cand1 m fhi F' k = -1) := by
              show _ = _
              unfold Sp.cand1
              rw [if_neg (of_decide_eq_false HB1.out)]
            go_wp2
            go_meet
            case rel => exact ⟨congrArg (Value.int .i64) HX.out.symm, rfl⟩
          · as_aux_lemma =>
            have hx := of_decide_eq_true HB1.out
            have HX : Hid (Sp.cand1 m fhi F' k = F' (k + 1)) := by
              show _ = _
              unfold Sp.cand1
              rw [if_pos hx]
            obtain ⟨i1, e1, e2, e3, e4, e5⟩ := HA1.out hx.1
            clear hx
            go_wp2
            go_meet
            case rel => exact ⟨congrArg (Value.int .i64) HX.out.symm, rfl⟩
        case rest =>
          as_aux_lemma =>
          obtain ⟨rfl, rfl⟩ := hcut
          have z1 : -1 ≤ Sp.cand1 m fhi F' k ∧ Sp.cand1 m fhi F' k ≤ n := by
            unfold Sp.cand1
            split
            · rename_i hx
              obtain ⟨i1, e1, e2, e3, e4, e5⟩ := HA1.out hx.1
              omega
            · omega
          obtain ⟨z1, z2⟩ := z1
          generalize hx1 : Sp.cand1 m fhi F' k = x1 at z1 z2 ⊢
          have HX1 := hidIt hx1
          clear hx1 HB1
          go_upto_region 23 with fail
          go_cut [172] from 116 to 271 (fun s172 wy => s172 = .bool (decide (flo ≤ k - 1 ∧ F' (k - 1) + 1 ≤ n ∧ x1 < F' (k - 1) + 1)) ∧ wr = wy)
          case first =>
            as_aux_lemma =>
            by_cases h1 : flo ≤ k - 1
            · obtain ⟨i2, e1, e2, e3, e4, e5⟩ := HA2.out h1
              by_cases h2 : F' (k - 1) + 1 ≤ (n : Int)
              · by_cases h3 : x1 < F' (k - 1) + 1
                · as_aux_lemma =>
                  have HD := hidIt (decide_eq_true (p := flo ≤ k - 1 ∧ F' (k - 1) + 1 ≤ (n : Int) ∧ x1 < F' (k - 1) + 1) ⟨h1, h2, h3⟩)
                  go_wp2
                  go_meet
                  case rel => exact ⟨congrArg Value.bool HD.out.symm, rfl⟩
                · as_aux_lemma =>
                  have HD := hidIt (decide_eq_false (p := flo ≤ k - 1 ∧ F' (k - 1) + 1 ≤ (n : Int) ∧ x1 < F' (k - 1) + 1) (fun e => h3 e.2.2))
                  go_wp2
                  go_meet
                  case rel => exact ⟨congrArg Value.bool HD.out.symm, rfl⟩
              · as_aux_lemma =>
                have HD := hidIt (decide_eq_false (p := flo ≤ k - 1 ∧ F' (k - 1) + 1 ≤ (n : Int) ∧ x1 < F' (k - 1) + 1) (fun e => h2 e.2.1))
                go_wp2
                go_meet
                case rel => exact ⟨congrArg Value.bool HD.out.symm, rfl⟩
            · as_aux_lemma =>
              have HD := hidIt (decide_eq_false (p := flo ≤ k - 1 ∧ F' (k - 1) + 1 ≤ (n : Int) ∧ x1 < F' (k - 1) + 1) (fun e => h1 e.1))
              go_wp2
              go_meet
              case rel => exact ⟨congrArg Value.bool HD.out.symm, rfl⟩
          case rest =>
            as_aux_lemma =>
            obtain ⟨rfl, rfl⟩ := hcut
            generalize hb2 : decide (flo ≤ k - 1 ∧ F' (k - 1) + 1 ≤ (n : Int) ∧ x1 < F' (k - 1) + 1) = t2
            have HB2 := hidIt hb2
            clear hb2
            go_upto_if 172 with fail
            go_cut [32] from 116 to 271 (fun s32 wy => s32 = .int .i64 (Sp.cand n m flo fhi F' k) ∧ wr = wy)
            case first =>
              as_aux_lemma =>
              cases t2
              · as_aux_lemma =>
                have HX : Hid (Sp.cand n m flo fhi F' k = x1) := by
                  show _ = _
                  unfold Sp.cand
                  rw [HX1.out, if_neg (of_decide_eq_false HB2.out)]
                go_wp2
                go_meet
                case rel => exact ⟨congrArg (Value.int .i64) HX.out.symm, rfl⟩
              · as_aux_lemma =>
                have hx := of_decide_eq_true HB2.out
                have HX : Hid (Sp.cand n m flo fhi F' k = F' (k - 1) + 1) := by
                  show _ = _
                  unfold Sp.cand
                  rw [HX1.out, if_pos hx]
                obtain ⟨i2, e1, e2, e3, e4, e5⟩ := HA2.out hx.1
                clear hx
                go_wp2
                go_meet
                case rel => exact ⟨congrArg (Value.int .i64) HX.out.symm, rfl⟩
            case rest =>
              as_aux_lemma =>
              obtain ⟨rfl, rfl⟩ := hcut
              clear HX1 HB2 HA1 HA2 z1 z2
              have HCS : Hid (0 ≤ Sp.cand n m flo fhi F' k → Sp.cand n m flo fhi F' k ≤ n ∧ 0 ≤ Sp.cand n m flo fhi F' k - k ∧ Sp.cand n m flo fhi F' k - k ≤ m) := by
                intro h
                have e := HF.out.rnd.cand_eq
                have cs := Sp.cand_sound HG.out HO.out.fi HF.out.rnd.kp (by rw [e] at h; exact h) (by omega) hin3
                rw [← e] at cs
                exact ⟨cs.1, cs.2.1, cs.2.2.1⟩
              generalize hxs : Sp.cand n m flo fhi F' k = xs at HCS ⊢
              have HXS := hidIt hxs
              clear hxs
              by_cases hx : xs < 0
              · as_aux_lemma =>
                obtain ⟨lo2, hi2, HLH⟩ : ∃ lo2 hi2 : Int, Hid (lo2 = (if k = lo then lo + 2 else lo) ∧ hi2 = (if k = lo then hi else hi - 2)) := ⟨_, _, rfl, rfl⟩
                have HBL := hidIt (HF.out.blocked HG.out HO.out hk (by rw [HXS.out]; exact hx))
                rw [← HLH.out.1, ← HLH.out.2] at HBL
                have BC : Calls Trym.prog 36 #[.int .i64 k, .int .i64 lo, .int .i64 hi] wr fun e w' => e = .returned (.tuple #[.int .i64 lo2, .int .i64 hi2]) ∧ w' = wr := by
                  have h := beyond_any k lo hi wr (by omega) (by omega) (by omega) (by omega)
                  rw [← HLH.out.1, ← HLH.out.2] at h
                  exact h
                go_wp2_with (go_at_call 36; refine BC.mono ?_; rintro e wy ⟨rfl, rfl⟩)
                go_roundg ((fhi + 4 - (k + 2)).toNat)
                case measure => omega
                case rel => exact ⟨k + 2, lo2, hi2, F', wk', rfl, rfl, rfl, by go_num, HBL.out, HS'.out, ⟨by have := HW.out; omega, w2⟩⟩
              · as_aux_lemma =>
                obtain ⟨q1, q2, q3⟩ := HCS.out (by omega)
                obtain ⟨X0, hX0⟩ : ∃ X0 : Nat, xs = X0 := ⟨xs.toNat, by omega⟩
                subst hX0
                obtain ⟨Y0, hY0⟩ : ∃ Y0 : Nat, (X0 : Int) - k = Y0 := ⟨((X0 : Int) - k).toNat, by omega⟩
                have q4 : (Y0 : Int) ≤ m := by omega
                clear HCS q2 q3
                go_wp2
                have HY0 := hidIt hY0
                clear hY0
                go_loopg [32, 33] (n + 1 - X0) (fun gk s32 s33 wy => ∃ (X Y : Nat) (wz : Int), gk = n + 1 - X ∧ s32 = .int .i64 X ∧ s33 = .int .i64 Y ∧ Hid (X0 ≤ X ∧ X ≤ n ∧ Y ≤ m ∧ (X : Int) - k = Y ∧ Sp.Run (fun x y => A x = B y) k X0 X) ∧
                  Hid (SM w wy base d f b (.slice (some ⟨ga, 0, none⟩) la la) (.slice (some ⟨gb, 0, none⟩) lb lb) r dl r F' G wz) ∧ Hid (wk' - ((X : Int) - X0) ≤ wz ∧ wz ≤ wk'))
                case atStart =>
                  exact ⟨X0, Y0, wk', rfl, rfl, rfl, ⟨Nat.le_refl _, by omega, by omega, HY0.out, ⟨Int.le_refl _, fun s h1 h2 => by omega⟩⟩, HS'.out, ⟨by omega, by omega⟩⟩
                case round =>
                  as_aux_lemma =>
                  obtain ⟨X, Y, wz, rfl, rfl, rfl, HR, HS2, HW2⟩ := hrel
                  have r1 : (X : Int) ≤ n := by have := HR.out.2.1; omega
                  have r2 : (Y : Int) ≤ m := by have := HR.out.2.2.1; omega
                  have r3 : (X0 : Int) ≤ X := by have := HR.out.1; omega
                  have r4 : 1000000000000000000 ≤ wz := by have := HW2.out; omega
                  have r5 : wz ≤ 9223372036854775807 := by have := HW2.out; omega
                  go_upto_region 28 with fail
                  go_cut [211] from 193 to 222 (fun s211 wv => s211 = .bool (decide ((X : Int) < n ∧ (Y : Int) < m ∧ A X = B Y)) ∧ ∃ nq, wr.drewN nq = wv)
                  case first =>
                    as_aux_lemma =>
                    by_cases h1 : (X : Int) < n
                    · by_cases h2 : (Y : Int) < m
                      · have ca : wr.cell? ⟨ga, x0 + X, none⟩ = some (.int .i32 (A X)) := by
                          rw [HS2.out.bel.cell (p := ⟨ga, x0 + X, none⟩) hga]
                          exact HA.out X (by omega)
                        have cb : wr.cell? ⟨gb, y0 + Y, none⟩ = some (.int .i32 (B Y)) := by
                          rw [HS2.out.bel.cell (p := ⟨gb, y0 + Y, none⟩) hgb]
                          exact HB.out Y (by omega)
                        by_cases h3 : A X = B Y
                        · as_aux_lemma =>
                          have h3b : (A X == B Y) = true := by simp [h3]
                          have HD := hidIt (decide_eq_true (p := (X : Int) < n ∧ (Y : Int) < m ∧ A X = B Y) ⟨h1, h2, h3⟩)
                          clear h3
                          go_quiet (fail)
                          go_wp2
                          go_meet
                          case rel => exact ⟨congrArg Value.bool HD.out.symm, _, rfl⟩
                        · as_aux_lemma =>
                          have h3b : (A X == B Y) = false := by simp [h3]
                          have HD := hidIt (decide_eq_false (p := (X : Int) < n ∧ (Y : Int) < m ∧ A X = B Y) (fun e => h3 e.2.2))
                          clear h3
                          go_quiet (fail)
                          go_wp2
                          go_meet
                          case rel => exact ⟨congrArg Value.bool HD.out.symm, _, rfl⟩
                      · as_aux_lemma =>
                        have HD := hidIt (decide_eq_false (p := (X : Int) < n ∧ (Y : Int) < m ∧ A X = B Y) (fun e => h2 e.2.1))
                        go_quiet (fail)
                        go_wp2
                        go_meet
                        case rel => exact ⟨congrArg Value.bool HD.out.symm, _, rfl⟩
                    · as_aux_lemma =>
                      have HD := hidIt (decide_eq_false (p := (X : Int) < n ∧ (Y : Int) < m ∧ A X = B Y) (fun e => h1 e.1))
                      go_quiet (fail)
                      go_wp2
                      go_meet
                      case rel => exact ⟨congrArg Value.bool HD.out.symm, _, rfl⟩
                  case rest =>
                    as_aux_lemma =>
                    obtain ⟨rfl, nq, rfl⟩ := hcut
                    have HS3 := hidIt (HS2.out.drewN nq)
                    clear HS2
                    generalize wr.drewN nq = wd at HS3 ⊢
                    generalize hb3 : decide ((X : Int) < n ∧ (Y : Int) < m ∧ A X = B Y) = t3
                    have HB3 := hidIt hb3
                    clear hb3
                    have d5 := HS3.out.field 5
                    simp only [List.getElem?_toArray, List.getElem?_cons_succ, List.getElem?_cons_zero] at d5
                    have d6 : wd.frozen? ⟨d, 5, none⟩ = false := free_of_block HS3.out.blk 5
                    cases t3
                    · as_aux_lemma =>
                      have cf := HS3.out.atF i3 k (by omega) (by omega)
                      have ff := HS3.out.fw.frozen i3
                      have hdf : d ≠ f := HS3.out.df
                      have hfd : f ≠ d := fun e => hdf e.symm
                      go_upto_region 33 with fail
                      have HS4 := hidIt ((HS3.out.work (wz - 1)).setF i3 k X (by omega))
                      clear HS3 cf ff d5 d6
                      generalize (wd.setCell ⟨d, 5, none⟩ (.int .i64 (wz - 1))).setCell ⟨f, i3, none⟩ (.int .i64 X) = we at HS4 ⊢
                      go_cut [256] from 116 to 271 (fun s256 wv => s256 = .bool (decide (odd = true ∧ blo ≤ k ∧ k ≤ bhi ∧ G k ≤ X)) ∧ we = wv)
                      case first =>
                        as_aux_lemma =>
                        cases odd
                        · as_aux_lemma =>
                          have HD := hidIt (decide_eq_false (p := false = true ∧ blo ≤ k ∧ k ≤ bhi ∧ G k ≤ X) (fun e => by cases e.1))
                          go_wp2
                          go_meet
                          case rel => exact ⟨congrArg Value.bool HD.out.symm, rfl⟩
                        · by_cases h1 : blo ≤ k
                          · by_cases h2 : k ≤ bhi
                            · have HJ : ∃ j3 : Nat, k + ((r : Int) - dl) = j3 ∧ (j3 : Int) < 2 * (r : Int) + 1 := by
                                have b1 := HO.out.bi.l1
                                have b2 := HO.out.bi.h1
                                have b3 := HDLE.out
                                exact ⟨(k + ((r : Int) - dl)).toNat, by omega, by omega⟩
                              obtain ⟨j3, j1, j2⟩ := HJ
                              have cg := HS4.out.atG j3 k (by omega) (by omega)
                              by_cases h3 : G k ≤ X
                              · as_aux_lemma =>
                                have HD := hidIt (decide_eq_true (p := true = true ∧ blo ≤ k ∧ k ≤ bhi ∧ G k ≤ X) ⟨rfl, h1, h2, h3⟩)
                                go_wp2
                                go_meet
                                case rel => exact ⟨congrArg Value.bool HD.out.symm, rfl⟩
                              · as_aux_lemma =>
                                have HD := hidIt (decide_eq_false (p := true = true ∧ blo ≤ k ∧ k ≤ bhi ∧ G k ≤ X) (fun e => h3 e.2.2.2))
                                go_wp2
                                go_meet
                                case rel => exact ⟨congrArg Value.bool HD.out.symm, rfl⟩
                            · as_aux_lemma =>
                              have HD := hidIt (decide_eq_false (p := true = true ∧ blo ≤ k ∧ k ≤ bhi ∧ G k ≤ X) (fun e => h2 e.2.2.1))
                              go_wp2
                              go_meet
                              case rel => exact ⟨congrArg Value.bool HD.out.symm, rfl⟩
                          · as_aux_lemma =>
                            have HD := hidIt (decide_eq_false (p := true = true ∧ blo ≤ k ∧ k ≤ bhi ∧ G k ≤ X) (fun e => h1 e.2.1))
                            go_wp2
                            go_meet
                            case rel => exact ⟨congrArg Value.bool HD.out.symm, rfl⟩
                      case rest =>
                        as_aux_lemma =>
                        obtain ⟨rfl, rfl⟩ := hcut
                        generalize hb4 : decide (odd = true ∧ blo ≤ k ∧ k ≤ bhi ∧ G k ≤ X) = t4
                        have HB4 := hidIt hb4
                        clear hb4
                        have HST : Hid (Sp.Stop n m (fun x y => A x = B y) k X) := by
                          intro s1 s2 s3
                          have e3 := of_decide_eq_false HB3.out
                          have e4 := HR.out.2.2.2.1
                          have s3' : A ((X : Int)).toNat = B ((X : Int) - k).toNat := s3
                          rw [show ((X : Int)).toNat = X from by omega, show ((X : Int) - k).toNat = Y from by omega] at s3'
                          exact e3 ⟨s1, by omega, s3'⟩
                        cases t4
                        · as_aux_lemma =>
                          have HN : Hid (Sp.FH n m df db D c odd flo fhi blo bhi F G (k + 2) lo hi (fun j => if j = k then (X : Int) else F' j)) := by
                            have e4 := of_decide_eq_false HB4.out
                            have e5 := HR.out.2.2.2.1
                            exact HF.out.free HG.out HO.out hk (by rw [HXS.out]; omega) r1 (by omega) (by rw [HXS.out]; exact HR.out.2.2.2.2) HST.out (fun ho h1 h2 => by
                              by_cases h3 : G k ≤ X
                              · exact absurd ⟨ho, h1, h2, h3⟩ e4
                              · omega)
                          go_wp2
                          go_roundg ((fhi + 4 - (k + 2)).toNat)
                          case measure => omega
                          case rel =>
                            exact ⟨k + 2, lo, hi, _, wz - 1, rfl, rfl, rfl, by go_num, HN.out, HS4.out, ⟨by have := HW.out; have := HW2.out; omega, by omega⟩⟩
                        · as_aux_lemma =>
                          have HN : Hid (Sp.Good n m df db D X Y) := by
                            obtain ⟨e1, e2, e3, e4⟩ := of_decide_eq_true HB4.out
                            have e5 := HR.out.2.2.2.1
                            have hgd := HF.out.meet HG.out HD2.out HPO.out.1 HO.out hk (by rw [HXS.out]; omega) r1 (by omega) (by rw [HXS.out]; exact HR.out.2.2.2.2) HST.out e1 e2 e3 e4
                            rw [show ((X : Int)).toNat = X from by omega, show ((X : Int) - k).toNat = Y from by omega] at hgd
                            exact hgd
                          have HI1 : Hid (¬ ((x0 : Int) + X = x0 ∧ (y0 : Int) + Y = y0)) := by
                            intro e; exact HN.out.2.2.2.1 ⟨by omega, by omega⟩
                          have HI2 : Hid (¬ ((x0 : Int) + X = (x0 : Int) + n ∧ (y0 : Int) + Y = (y0 : Int) + m)) := by
                            intro e; exact HN.out.2.2.2.2 ⟨by omega, by omega⟩
                          go_wp2_with (go_at_call 37; refine (inside_any _ _ _ _ _ _ _ _ HI1.out HI2.out).mono ?_; rintro e wy ⟨rfl, rfl⟩)
                          refine ⟨X, Y, HN.out, HS4.out.bel, ?_⟩
                          (repeat apply Exists.intro)
                          rfl
                    · as_aux_lemma =>
                      go_wp2
                      have HS4 := hidIt (HS3.out.work (wz - 1))
                      have e3 := of_decide_eq_true HB3.out
                      go_roundg (n + 1 - (X + 1))
                      case measure => omega
                      case rel =>
                        refine ⟨X + 1, Y + 1, wz - 1, rfl, by go_num, by go_num, ⟨by omega, by omega, by omega, by have := HR.out.2.2.2.1; omega, ?_⟩, HS4.out, ⟨by have := HW2.out; omega, by have := HW2.out; omega⟩⟩
                        obtain ⟨u1, u2⟩ := HR.out.2.2.2.2
                        refine ⟨by omega, fun s s1 s2 => ?_⟩
                        by_cases es : s < X
                        · exact u2 s s1 es
                        · have := HR.out.2.2.2.1
                          have esX : s = (X : Int) := by omega
                          rw [esX, show ((X : Int)).toNat = X from by omega, show ((X : Int) - k).toNat = Y from by omega]
                          exact e3.2.2
    · as_aux_lemma =>
      go_wp2
      refine hexit _ _ ⟨lo, hi, F', wk', HF.out.done HG.out HPO.out HO.out (by omega), HS'.out, ⟨by have := HW.out; omega, w2⟩, ?_⟩
      (repeat apply Exists.intro)
      rfl

end Go.Proofs.Qxb6602525aMods
