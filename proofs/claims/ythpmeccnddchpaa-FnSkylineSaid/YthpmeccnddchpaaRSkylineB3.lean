/-
  Texts of this claim, laid together: S10 S11 S5 S6 S12.
  Conditions: as each of them tells.
-/
import Derived.Test.YthpmeccnddchpaaRSkylineB2
set_option linter.unusedVariables false
set_option linter.unusedSimpArgs false
open List (set_cons_zero set_cons_succ eraseIdx_cons_zero eraseIdx_cons_succ cons_append nil_append map_append map_cons map_flatMap map_nil flatMap_cons flatMap_append flatMap_nil append_nil append_assoc length_cons length_nil length_append take_succ_cons drop_succ_cons take_zero drop_zero take_nil drop_nil size_toArray length_map)
section
namespace Go.Proofs.Ythpmeccnddchpaa
open Go.Hp
set_option maxRecDepth 100000
set_option maxHeartbeats 8000000
/-! ### (*pub/tidwallbtree.BTreeG[impl.Item]).nodeRebalance -/
def BTreeG_I_nodeRebalance.j2 (s0 s1 s2 s6 s7 : Value) (h : Heap) (Q : Value → Heap → Prop) : Prop := nilck s6 fun t104 => fld 1 t104 fun t105 => load1 t105 h fun t106 => nilck s7 fun t108 => fld 1 t108 fun t109 => load1 t109 h fun t110 => arith (· + ·) t110 (.int .i64 1) fun t111 => arith (· + ·) t106 t111 fun t112 => nilck s6 fun t113 => fld 1 t113 fun t114 => store1 t114 t112 h fun h => nilck s1 fun t116 => fld 2 t116 fun t117 => load1 t117 h fun t118 => slc 2 t118 (some s2) none none fun t120 => nilck s1 fun t122 => fld 2 t122 fun t123 => load1 t123 h fun t124 => arith (· + ·) s2 (.int .i64 1) fun t126 => slc 2 t124 (some t126) none none fun t127 => cpy 2 t120 t127 h fun t128 h => nilck s1 fun t130 => fld 2 t130 fun t131 => load1 t131 h fun t132 => nilck s1 fun t134 => fld 2 t134 fun t135 => load1 t135 h fun t136 => lenV t136 fun t137 => arith (· - ·) t137 (.int .i64 1) fun t138 => nilck s0 fun t140 => fld 7 t140 fun t141 => loadN 2 t141 h fun t142 => idx 2 t132 t138 fun t143 => storeN 2 t143 t142 h fun h => nilck s1 fun t146 => fld 2 t146 fun t147 => load1 t147 h fun t148 => nilck s1 fun t150 => fld 2 t150 fun t151 => load1 t151 h fun t152 => lenV t152 fun t153 => arith (· - ·) t153 (.int .i64 1) fun t154 => slc 2 t148 none (some t154) none fun t155 => nilck s1 fun t156 => fld 2 t156 fun t157 => store1 t157 t155 h fun h => nilck s1 fun t159 => fld 3 t159 fun t160 => load1 t160 h fun t161 => nilck t161 fun t162 => load1 t162 h fun t163 => arith (· + ·) s2 (.int .i64 1) fun t165 => slc 1 t163 (some t165) none none fun t166 => nilck s1 fun t168 => fld 3 t168 fun t169 => load1 t169 h fun t170 => nilck t170 fun t171 => load1 t171 h fun t172 => arith (· + ·) s2 (.int .i64 2) fun t174 => slc 1 t172 (some t174) none none fun t175 => cpy 1 t166 t175 h fun t176 h => nilck s1 fun t178 => fld 3 t178 fun t179 => load1 t179 h fun t180 => nilck t180 fun t181 => load1 t181 h fun t182 => nilck s1 fun t184 => fld 3 t184 fun t185 => load1 t185 h fun t186 => nilck t186 fun t187 => load1 t187 h fun t188 => lenV t188 fun t189 => arith (· - ·) t189 (.int .i64 1) fun t190 => idx 1 t182 t190 fun t191 => store1 t191 (.pointer none) h fun h => nilck s1 fun t193 => fld 3 t193 fun t194 => load1 t194 h fun t195 => nilck s1 fun t197 => fld 3 t197 fun t198 => load1 t198 h fun t199 => nilck t199 fun t200 => load1 t200 h fun t201 => nilck s1 fun t203 => fld 3 t203 fun t204 => load1 t204 h fun t205 => nilck t205 fun t206 => load1 t206 h fun t207 => lenV t207 fun t208 => arith (· - ·) t208 (.int .i64 1) fun t209 => slc 1 t201 none (some t209) none fun t210 => nilck t195 fun t211 => store1 t211 t210 h fun h => Q (.tuple #[]) h
def BTreeG_I_nodeRebalance.j1 (s0 s1 s2 : Value) (h : Heap) (Q : Value → Heap → Prop) : Prop := nilck s1 fun t19 => fld 3 t19 fun t20 => load1 t20 h fun t21 => nilck t21 fun t22 => load1 t22 h fun t23 => idx 1 t23 s2 fun t25 => BTreeG_I_isoLoad.call #[s0, t25, (.bool true)] h fun t26 h => nilck s1 fun t29 => fld 3 t29 fun t30 => load1 t30 h fun t31 => nilck t31 fun t32 => load1 t32 h fun t33 => arith (· + ·) s2 (.int .i64 1) fun t35 => idx 1 t33 t35 fun t36 => BTreeG_I_isoLoad.call #[s0, t36, (.bool true)] h fun t37 h => nilck t26 fun t39 => fld 2 t39 fun t40 => load1 t40 h fun t41 => lenV t41 fun t42 => nilck t37 fun t44 => fld 2 t44 fun t45 => load1 t45 h fun t46 => lenV t46 fun t47 => arith (· + ·) t42 t47 fun t48 => nilck s0 fun t50 => fld 9 t50 fun t51 => load1 t51 h fun t52 => cmpI (fun a b => decide (a < b)) t48 t52 fun t53 => ifV t53 (nilck t26 fun t56 => fld 2 t56 fun t57 => load1 t57 h fun t58 => nilck s1 fun t60 => fld 2 t60 fun t61 => load1 t61 h fun t62 => idx 2 t62 s2 fun t64 => loadN 2 t64 h fun t65 => mkSl (if 1 * 2 = 0 then [] else zeros [(.int .i64 0), (.int .i64 0)] 1) 1 [(0 * 2, 2, t65)] 30 h fun t66 h => still1 t57 t58 h ∧ app 30 2 16 [(.int .i64 0), (.int .i64 0)] t58 t66 h fun t67 h => nilck t26 fun t68 => fld 2 t68 fun t69 => store1 t69 t67 h fun h => nilck t26 fun t72 => fld 2 t72 fun t73 => load1 t73 h fun t74 => nilck t37 fun t76 => fld 2 t76 fun t77 => load1 t77 h fun t78 => app 30 2 16 [(.int .i64 0), (.int .i64 0)] t74 t78 h fun t79 h => nilck t26 fun t80 => fld 2 t80 fun t81 => store1 t81 t79 h fun h => node_I_leaf.call #[t26] h fun t83 h => notV t83 fun t84 => ifV t84 (nilck t26 fun t86 => fld 3 t86 fun t87 => load1 t87 h fun t88 => nilck t26 fun t90 => fld 3 t90 fun t91 => load1 t91 h fun t92 => nilck t92 fun t93 => load1 t93 h fun t94 => nilck t37 fun t96 => fld 3 t96 fun t97 => load1 t97 h fun t98 => nilck t98 fun t99 => load1 t99 h fun t100 => app 115 1 8 [(.pointer none)] t94 t100 h fun t101 h => still1 t87 t88 h ∧ nilck t88 fun t102 => store1 t102 t101 h fun h => BTreeG_I_nodeRebalance.j2 s0 s1 s2 t26 t37 h Q) (BTreeG_I_nodeRebalance.j2 s0 s1 s2 t26 t37 h Q)) (nilck t26 fun t213 => fld 2 t213 fun t214 => load1 t214 h fun t215 => lenV t215 fun t216 => nilck t37 fun t218 => fld 2 t218 fun t219 => load1 t219 h fun t220 => lenV t220 fun t221 => cmpI (fun a b => decide (a > b)) t216 t221 fun t222 => ifV t222 (nilck t37 fun t225 => fld 2 t225 fun t226 => load1 t226 h fun t227 => nilck s0 fun t229 => fld 7 t229 fun t230 => loadN 2 t230 h fun t231 => mkSl (if 1 * 2 = 0 then [] else zeros [(.int .i64 0), (.int .i64 0)] 1) 1 [(0 * 2, 2, t231)] 30 h fun t232 h => still1 t226 t227 h ∧ app 30 2 16 [(.int .i64 0), (.int .i64 0)] t227 t232 h fun t233 h => nilck t37 fun t234 => fld 2 t234 fun t235 => store1 t235 t233 h fun h => nilck t37 fun t237 => fld 2 t237 fun t238 => load1 t238 h fun t239 => slc 2 t239 (some (.int .i64 1)) none none fun t240 => nilck t37 fun t242 => fld 2 t242 fun t243 => load1 t243 h fun t244 => cpy 2 t240 t244 h fun t245 h => nilck t37 fun t247 => fld 2 t247 fun t248 => load1 t248 h fun t249 => nilck s1 fun t251 => fld 2 t251 fun t252 => load1 t252 h fun t253 => idx 2 t253 s2 fun t255 => loadN 2 t255 h fun t256 => idx 2 t249 (.int .i64 0) fun t257 => storeN 2 t257 t256 h fun h => nilck t37 fun t259 => fld 1 t259 fun t260 => load1 t260 h fun t261 => arith (· + ·) t261 (.int .i64 1) fun t262 => nilck t37 fun t263 => fld 1 t263 fun t264 => store1 t264 t262 h fun h => nilck s1 fun t266 => fld 2 t266 fun t267 => load1 t267 h fun t268 => nilck t26 fun t271 => fld 2 t271 fun t272 => load1 t272 h fun t273 => nilck t26 fun t275 => fld 2 t275 fun t276 => load1 t276 h fun t277 => lenV t277 fun t278 => arith (· - ·) t278 (.int .i64 1) fun t279 => idx 2 t273 t279 fun t280 => loadN 2 t280 h fun t281 => idx 2 t268 s2 fun t282 => storeN 2 t282 t281 h fun h => nilck t26 fun t284 => fld 2 t284 fun t285 => load1 t285 h fun t286 => nilck t26 fun t288 => fld 2 t288 fun t289 => load1 t289 h fun t290 => lenV t290 fun t291 => arith (· - ·) t291 (.int .i64 1) fun t292 => nilck s0 fun t294 => fld 7 t294 fun t295 => loadN 2 t295 h fun t296 => idx 2 t286 t292 fun t297 => storeN 2 t297 t296 h fun h => nilck t26 fun t300 => fld 2 t300 fun t301 => load1 t301 h fun t302 => nilck t26 fun t304 => fld 2 t304 fun t305 => load1 t305 h fun t306 => lenV t306 fun t307 => arith (· - ·) t307 (.int .i64 1) fun t308 => slc 2 t302 none (some t308) none fun t309 => nilck t26 fun t310 => fld 2 t310 fun t311 => store1 t311 t309 h fun h => nilck t26 fun t313 => fld 1 t313 fun t314 => load1 t314 h fun t315 => arith (· - ·) t315 (.int .i64 1) fun t316 => nilck t26 fun t317 => fld 1 t317 fun t318 => store1 t318 t316 h fun h => node_I_leaf.call #[t26] h fun t320 h => notV t320 fun t321 => ifV t321 (nilck t37 fun t323 => fld 3 t323 fun t324 => load1 t324 h fun t325 => nilck t37 fun t327 => fld 3 t327 fun t328 => load1 t328 h fun t329 => nilck t329 fun t330 => load1 t330 h fun t331 => mkSl (if 1 * 1 = 0 then [] else zeros [(.pointer none)] 1) 1 [(0 * 1, 1, (.pointer none))] 115 h fun t332 h => still1 t324 t325 h ∧ still1 t328 t329 h ∧ still1 t330 t331 h ∧ app 115 1 8 [(.pointer none)] t331 t332 h fun t333 h => still1 t324 t325 h ∧ nilck t325 fun t334 => store1 t334 t333 h fun h => nilck t37 fun t336 => fld 3 t336 fun t337 => load1 t337 h fun t338 => nilck t338 fun t339 => load1 t339 h fun t340 => slc 1 t340 (some (.int .i64 1)) none none fun t341 => nilck t37 fun t343 => fld 3 t343 fun t344 => load1 t344 h fun t345 => nilck t345 fun t346 => load1 t346 h fun t347 => cpy 1 t341 t347 h fun t348 h => nilck t37 fun t350 => fld 3 t350 fun t351 => load1 t351 h fun t352 => nilck t352 fun t353 => load1 t353 h fun t354 => nilck t26 fun t356 => fld 3 t356 fun t357 => load1 t357 h fun t358 => nilck t358 fun t359 => load1 t359 h fun t360 => nilck t26 fun t362 => fld 3 t362 fun t363 => load1 t363 h fun t364 => nilck t364 fun t365 => load1 t365 h fun t366 => lenV t366 fun t367 => arith (· - ·) t367 (.int .i64 1) fun t368 => idx 1 t360 t368 fun t369 => load1 t369 h fun t370 => idx 1 t354 (.int .i64 0) fun t371 => store1 t371 t370 h fun h => nilck t26 fun t373 => fld 3 t373 fun t374 => load1 t374 h fun t375 => nilck t375 fun t376 => load1 t376 h fun t377 => nilck t26 fun t379 => fld 3 t379 fun t380 => load1 t380 h fun t381 => nilck t381 fun t382 => load1 t382 h fun t383 => lenV t383 fun t384 => arith (· - ·) t384 (.int .i64 1) fun t385 => idx 1 t377 t385 fun t386 => store1 t386 (.pointer none) h fun h => nilck t26 fun t388 => fld 3 t388 fun t389 => load1 t389 h fun t390 => nilck t26 fun t392 => fld 3 t392 fun t393 => load1 t393 h fun t394 => nilck t394 fun t395 => load1 t395 h fun t396 => nilck t26 fun t398 => fld 3 t398 fun t399 => load1 t399 h fun t400 => nilck t400 fun t401 => load1 t401 h fun t402 => lenV t402 fun t403 => arith (· - ·) t403 (.int .i64 1) fun t404 => slc 1 t396 none (some t404) none fun t405 => nilck t390 fun t406 => store1 t406 t405 h fun h => nilck t26 fun t408 => fld 1 t408 fun t409 => load1 t409 h fun t410 => nilck t37 fun t412 => fld 3 t412 fun t413 => load1 t413 h fun t414 => nilck t414 fun t415 => load1 t415 h fun t416 => idx 1 t416 (.int .i64 0) fun t417 => load1 t417 h fun t418 => nilck t418 fun t419 => fld 1 t419 fun t420 => load1 t420 h fun t421 => arith (· - ·) t410 t421 fun t422 => nilck t26 fun t423 => fld 1 t423 fun t424 => store1 t424 t422 h fun h => nilck t37 fun t426 => fld 1 t426 fun t427 => load1 t427 h fun t428 => nilck t37 fun t430 => fld 3 t430 fun t431 => load1 t431 h fun t432 => nilck t432 fun t433 => load1 t433 h fun t434 => idx 1 t434 (.int .i64 0) fun t435 => load1 t435 h fun t436 => nilck t436 fun t437 => fld 1 t437 fun t438 => load1 t438 h fun t439 => arith (· + ·) t428 t439 fun t440 => nilck t37 fun t441 => fld 1 t441 fun t442 => store1 t442 t440 h fun h => Q (.tuple #[]) h) (Q (.tuple #[]) h)) (nilck t26 fun t445 => fld 2 t445 fun t446 => load1 t446 h fun t447 => nilck s1 fun t449 => fld 2 t449 fun t450 => load1 t450 h fun t451 => idx 2 t451 s2 fun t453 => loadN 2 t453 h fun t454 => mkSl (if 1 * 2 = 0 then [] else zeros [(.int .i64 0), (.int .i64 0)] 1) 1 [(0 * 2, 2, t454)] 30 h fun t455 h => still1 t446 t447 h ∧ app 30 2 16 [(.int .i64 0), (.int .i64 0)] t447 t455 h fun t456 h => nilck t26 fun t457 => fld 2 t457 fun t458 => store1 t458 t456 h fun h => nilck t26 fun t460 => fld 1 t460 fun t461 => load1 t461 h fun t462 => arith (· + ·) t462 (.int .i64 1) fun t463 => nilck t26 fun t464 => fld 1 t464 fun t465 => store1 t465 t463 h fun h => nilck s1 fun t467 => fld 2 t467 fun t468 => load1 t468 h fun t469 => nilck t37 fun t472 => fld 2 t472 fun t473 => load1 t473 h fun t474 => idx 2 t474 (.int .i64 0) fun t475 => loadN 2 t475 h fun t476 => idx 2 t469 s2 fun t477 => storeN 2 t477 t476 h fun h => nilck t37 fun t479 => fld 2 t479 fun t480 => load1 t480 h fun t481 => nilck t37 fun t483 => fld 2 t483 fun t484 => load1 t484 h fun t485 => slc 2 t485 (some (.int .i64 1)) none none fun t486 => cpy 2 t481 t486 h fun t487 h => nilck t37 fun t489 => fld 2 t489 fun t490 => load1 t490 h fun t491 => nilck t37 fun t493 => fld 2 t493 fun t494 => load1 t494 h fun t495 => lenV t495 fun t496 => arith (· - ·) t496 (.int .i64 1) fun t497 => nilck s0 fun t499 => fld 7 t499 fun t500 => loadN 2 t500 h fun t501 => idx 2 t491 t497 fun t502 => storeN 2 t502 t501 h fun h => nilck t37 fun t505 => fld 2 t505 fun t506 => load1 t506 h fun t507 => nilck t37 fun t509 => fld 2 t509 fun t510 => load1 t510 h fun t511 => lenV t511 fun t512 => arith (· - ·) t512 (.int .i64 1) fun t513 => slc 2 t507 none (some t513) none fun t514 => nilck t37 fun t515 => fld 2 t515 fun t516 => store1 t516 t514 h fun h => nilck t37 fun t518 => fld 1 t518 fun t519 => load1 t519 h fun t520 => arith (· - ·) t520 (.int .i64 1) fun t521 => nilck t37 fun t522 => fld 1 t522 fun t523 => store1 t523 t521 h fun h => node_I_leaf.call #[t26] h fun t525 h => notV t525 fun t526 => ifV t526 (nilck t26 fun t528 => fld 3 t528 fun t529 => load1 t529 h fun t530 => nilck t26 fun t532 => fld 3 t532 fun t533 => load1 t533 h fun t534 => nilck t534 fun t535 => load1 t535 h fun t536 => nilck t37 fun t538 => fld 3 t538 fun t539 => load1 t539 h fun t540 => nilck t540 fun t541 => load1 t541 h fun t542 => idx 1 t542 (.int .i64 0) fun t543 => load1 t543 h fun t544 => mkSl (if 1 * 1 = 0 then [] else zeros [(.pointer none)] 1) 1 [(0 * 1, 1, t544)] 115 h fun t545 h => still1 t529 t530 h ∧ still1 t533 t534 h ∧ still1 t535 t536 h ∧ app 115 1 8 [(.pointer none)] t536 t545 h fun t546 h => still1 t529 t530 h ∧ nilck t530 fun t547 => store1 t547 t546 h fun h => nilck t37 fun t549 => fld 3 t549 fun t550 => load1 t550 h fun t551 => nilck t551 fun t552 => load1 t552 h fun t553 => nilck t37 fun t555 => fld 3 t555 fun t556 => load1 t556 h fun t557 => nilck t557 fun t558 => load1 t558 h fun t559 => slc 1 t559 (some (.int .i64 1)) none none fun t560 => cpy 1 t553 t560 h fun t561 h => nilck t37 fun t563 => fld 3 t563 fun t564 => load1 t564 h fun t565 => nilck t565 fun t566 => load1 t566 h fun t567 => nilck t37 fun t569 => fld 3 t569 fun t570 => load1 t570 h fun t571 => nilck t571 fun t572 => load1 t572 h fun t573 => lenV t573 fun t574 => arith (· - ·) t574 (.int .i64 1) fun t575 => idx 1 t567 t575 fun t576 => store1 t576 (.pointer none) h fun h => nilck t37 fun t578 => fld 3 t578 fun t579 => load1 t579 h fun t580 => nilck t37 fun t582 => fld 3 t582 fun t583 => load1 t583 h fun t584 => nilck t584 fun t585 => load1 t585 h fun t586 => nilck t37 fun t588 => fld 3 t588 fun t589 => load1 t589 h fun t590 => nilck t590 fun t591 => load1 t591 h fun t592 => lenV t592 fun t593 => arith (· - ·) t593 (.int .i64 1) fun t594 => slc 1 t586 none (some t594) none fun t595 => nilck t580 fun t596 => store1 t596 t595 h fun h => nilck t26 fun t598 => fld 1 t598 fun t599 => load1 t599 h fun t600 => nilck t26 fun t602 => fld 3 t602 fun t603 => load1 t603 h fun t604 => nilck t604 fun t605 => load1 t605 h fun t606 => nilck t26 fun t608 => fld 3 t608 fun t609 => load1 t609 h fun t610 => nilck t610 fun t611 => load1 t611 h fun t612 => lenV t612 fun t613 => arith (· - ·) t613 (.int .i64 1) fun t614 => idx 1 t606 t614 fun t615 => load1 t615 h fun t616 => nilck t616 fun t617 => fld 1 t617 fun t618 => load1 t618 h fun t619 => arith (· + ·) t600 t619 fun t620 => nilck t26 fun t621 => fld 1 t621 fun t622 => store1 t622 t620 h fun h => nilck t37 fun t624 => fld 1 t624 fun t625 => load1 t625 h fun t626 => nilck t26 fun t628 => fld 3 t628 fun t629 => load1 t629 h fun t630 => nilck t630 fun t631 => load1 t631 h fun t632 => nilck t26 fun t634 => fld 3 t634 fun t635 => load1 t635 h fun t636 => nilck t636 fun t637 => load1 t637 h fun t638 => lenV t638 fun t639 => arith (· - ·) t639 (.int .i64 1) fun t640 => idx 1 t632 t640 fun t641 => load1 t641 h fun t642 => nilck t642 fun t643 => fld 1 t643 fun t644 => load1 t644 h fun t645 => arith (· - ·) t626 t645 fun t646 => nilck t37 fun t647 => fld 1 t647 fun t648 => store1 t648 t646 h fun h => Q (.tuple #[]) h) (Q (.tuple #[]) h)))
def BTreeG_I_nodeRebalance.sh (a0 a1 a2 : Value) (h : Heap) (Q : Value → Heap → Prop) : Prop := nilck a1 fun t10 => fld 2 t10 fun t11 => load1 t11 h fun t12 => lenV t12 fun t13 => cmpI (fun a b => a == b) a2 t13 fun t14 => ifV t14 (arith (· - ·) a2 (.int .i64 1) fun t16 => BTreeG_I_nodeRebalance.j1 a0 a1 t16 h Q) (BTreeG_I_nodeRebalance.j1 a0 a1 a2 h Q)
theorem BTreeG_I_nodeRebalance.body (a0 a1 a2 : Value) (h : Heap) (Q : Value → Heap → Prop) (H : BTreeG_I_nodeRebalance.sh a0 a1 a2 h Q) : BTreeG_I_nodeRebalance.call #[a0, a1, a2] h Q := by
  refine callsH_of (args := [a0, a1, a2]) Try.func92 rfl rfl ?_; unfold BTreeG_I_nodeRebalance.sh at H; refine WPc_seq (fun e h => BTreeG_I_nodeRebalance.j1 (e 0) (e 1) (e 2) h Q) ?_ (fun e h H => ?_)
  rotate_left
  · unfold BTreeG_I_nodeRebalance.j1 at H
    refine WPc_seq' ?_; refine W_region (by kernel_rfl) ?_; refine vl_n ?_; refine H_of_R (R_move (v := (e 0)) rfl ?_)
    refine vl_n ?_; refine H_of_R (R_move (v := (e 1)) rfl ?_)
    refine vl_n ?_; refine H_of_R (R_nil H fun t19 H => ?_)
    refine vl_n ?_; refine H_of_R (R_fld TF_129_3 H fun t20 H => ?_)
    refine vl_n ?_; refine H_of_R (R_load1 T1_127 H fun _ t21 _ _ H => ?_)
    refine vl_n ?_; refine H_of_R (R_nil H fun t22 H => ?_)
    refine vl_n ?_; refine H_of_R (R_load1 T1_130 H fun _ t23 _ _ H => ?_)
    refine vl_n ?_; refine H_of_R (R_move (v := (e 2)) rfl ?_)
    refine vl_n ?_; refine H_of_R (R_idx TE_130 H fun t25 H => ?_)
    refine vl_n ?_; refine H_call HB_77 H fun t26 h H => ?_; refine vl_n ?_; refine H_of_R (R_assign (v := t26) rfl ?_)
    refine vl_e ?_; refine WPc_seq' ?_; refine W_region (by kernel_rfl) ?_; refine vl_n ?_; refine H_of_R (R_move (v := (e 0)) rfl ?_)
    refine vl_n ?_; refine H_of_R (R_move (v := (e 1)) rfl ?_)
    refine vl_n ?_; refine H_of_R (R_nil H fun t29 H => ?_)
    refine vl_n ?_; refine H_of_R (R_fld TF_129_3 H fun t30 H => ?_)
    refine vl_n ?_; refine H_of_R (R_load1 T1_127 H fun _ t31 _ _ H => ?_)
    refine vl_n ?_; refine H_of_R (R_nil H fun t32 H => ?_)
    refine vl_n ?_; refine H_of_R (R_load1 T1_130 H fun _ t33 _ _ H => ?_)
    refine vl_n ?_; refine H_of_R (R_move (v := (e 2)) rfl ?_)
    refine vl_n ?_; refine H_of_R (R_add H fun t35 H => ?_)
    refine vl_n ?_; refine H_of_R (R_idx TE_130 H fun t36 H => ?_)
    refine vl_n ?_; refine H_call HB_77 H fun t37 h H => ?_; refine vl_n ?_; refine H_of_R (R_assign (v := t37) rfl ?_)
    refine vl_e ?_; refine WPc_seq' ?_; refine W_drawn [0, 1, 3, 7, 15, 0, 32, 96, 224, 480, 1023, 0, 2048, 6144, 14336, 32767] (.take 0 (.take 1 (.take 2 (.take 3 (.take 4 (.take 5 (.take 6 (.take 7 (.take 8 (.take 9 (.take 10 (.take 11 (.take 12 (.take 13 (.take 14 (.take 15 .done)))))))))))))))) mixed (by kernel_rfl) ?_; refine tkP rfl ?_; refine R_move (v := t26) rfl ⟨fun _ => trivial, ?_⟩
    refine tkP rfl ?_; refine R_nil H fun t39 H => ⟨fun _ => trivial, ?_⟩
    refine tkP rfl ?_; refine R_fld TF_129_2 H fun t40 H => ⟨fun _ => trivial, ?_⟩
    refine tkL rfl ?_; refine R_load1 T1_25 H fun at41 t41 hat41 _ H => ?_; refine tkP rfl ?_; refine R_len Try.underlying25 H fun t42 H => ⟨fun _ => trivial, ?_⟩
    refine tkP rfl ?_; refine R_move (v := t37) rfl ⟨fun _ => trivial, ?_⟩
    refine tkP rfl ?_; refine R_nil H fun t44 H => ⟨fun _ => trivial, ?_⟩
    refine tkP rfl ?_; refine R_fld TF_129_2 H fun t45 H => ⟨fun _ => trivial, ?_⟩
    refine tkL rfl ?_; refine R_load1 T1_25 H fun at46 t46 hat46 _ H => ?_; refine tkP rfl ?_; refine R_len Try.underlying25 H fun t47 H => ⟨fun _ => trivial, ?_⟩
    refine tkP rfl ?_; refine R_add H fun t48 H => ⟨fun _ => trivial, ?_⟩
    refine tkP rfl ?_; refine R_move (v := (e 0)) rfl ⟨fun _ => trivial, ?_⟩
    refine tkP rfl ?_; refine R_nil H fun t50 H => ⟨fun _ => trivial, ?_⟩
    refine tkP rfl ?_; refine R_fld TF_117_8 H fun t51 H => ⟨fun _ => trivial, ?_⟩
    refine tkL rfl ?_; refine R_load1 T1_3 H fun at52 t52 hat52 _ H => ?_; refine tkP rfl ?_; refine R_lss H fun t53 H => ⟨fun _ => trivial, ?_⟩
    refine vp_done ?_; obtain ⟨b, hc, H1, H2⟩ := H; refine WPc_cond hc (fun hh => ?_) (fun hh => ?_)
    · have H := H1 hh; clear H1 H2
      refine WPc_seq' ?_; refine W_drawn [0, 0, 2, 6, 14, 0, 32, 96, 224, 0, 992, 2016, 4064, 8190, 16383, 32767, 65535] (.take 0 (.take 1 (.take 2 (.take 3 (.take 4 (.take 5 (.take 6 (.take 7 (.take 8 (.take 9 (.take 10 (.take 11 (.alt 12 (.alt 13 (.take 14 (.take 15 (.alt 16 .done .none))) .none) .none))))))))))))) mixed (by kernel_rfl) ?_; refine tkP rfl ?_; refine R_move (v := t26) rfl ⟨fun _ => trivial, ?_⟩
      refine tkP rfl ?_; refine R_move (v := t26) rfl ⟨fun _ => trivial, ?_⟩
      refine tkP rfl ?_; refine R_nil H fun t56 H => ⟨fun _ => trivial, ?_⟩
      refine tkP rfl ?_; refine R_fld TF_129_2 H fun t57 H => ⟨fun _ => trivial, ?_⟩
      refine tkL rfl ?_; refine R_load1 T1_25 H fun at58 t58 hat58 _ H => ?_; refine tkP rfl ?_; refine R_move (v := (e 1)) rfl ⟨fun _ => trivial, ?_⟩
      refine tkP rfl ?_; refine R_nil H fun t60 H => ⟨fun _ => trivial, ?_⟩
      refine tkP rfl ?_; refine R_fld TF_129_2 H fun t61 H => ⟨fun _ => trivial, ?_⟩
      refine tkL rfl ?_; refine R_load1 T1_25 H fun at62 t62 hat62 _ H => ?_; refine tkP rfl ?_; refine R_move (v := (e 2)) rfl ⟨fun _ => trivial, ?_⟩
      refine tkP rfl ?_; refine R_idx TE_25 H fun t64 H => ⟨fun _ => trivial, ?_⟩
      refine tkL rfl ?_; refine R_loadN TN_30 H fun at65 xt65 hat65 _ H St65 hSt65 => ?_; refine alt_n rfl ?_ vp_none
      refine H_mkSl TZ_25 (by decide) rfl H rfl fun t66 h ⟨S, H⟩ => ⟨(hskip rfl (hskip rfl (hcons rfl (still_1 S hat58) hnil))), ?_⟩
      refine alt_n rfl ?_ vp_none
      refine H_app TZ_25 TU_25 H fun t67 h H => ⟨(hskip rfl hnil), ?_⟩
      refine tkP rfl ?_; refine R_nil H fun t68 H => ⟨fun _ => trivial, ?_⟩
      refine tkP rfl ?_; refine R_fld TF_129_2 H fun t69 H => ⟨fun _ => trivial, ?_⟩
      refine alt_n rfl ?_ vp_none
      refine H_store1 TS_25 H fun h H => ⟨hnil, ?_⟩
      refine vp_done ?_; refine WPc_seq' ?_; refine W_drawn [0, 0, 2, 6, 14, 0, 32, 96, 224, 510, 1023, 2047, 4095] (.take 0 (.take 1 (.take 2 (.take 3 (.take 4 (.take 5 (.take 6 (.take 7 (.take 8 (.alt 9 (.take 10 (.take 11 (.alt 12 .done .none))) .none)))))))))) mixed (by kernel_rfl) ?_; refine tkP rfl ?_; refine R_move (v := t26) rfl ⟨fun _ => trivial, ?_⟩
      refine tkP rfl ?_; refine R_move (v := t26) rfl ⟨fun _ => trivial, ?_⟩
      refine tkP rfl ?_; refine R_nil H fun t72 H => ⟨fun _ => trivial, ?_⟩
      refine tkP rfl ?_; refine R_fld TF_129_2 H fun t73 H => ⟨fun _ => trivial, ?_⟩
      refine tkL rfl ?_; refine R_load1 T1_25 H fun at74 t74 hat74 _ H => ?_; refine tkP rfl ?_; refine R_move (v := t37) rfl ⟨fun _ => trivial, ?_⟩
      refine tkP rfl ?_; refine R_nil H fun t76 H => ⟨fun _ => trivial, ?_⟩
      refine tkP rfl ?_; refine R_fld TF_129_2 H fun t77 H => ⟨fun _ => trivial, ?_⟩
      refine tkL rfl ?_; refine R_load1 T1_25 H fun at78 t78 hat78 _ H => ?_; refine alt_n rfl ?_ vp_none
      refine H_app TZ_25 TU_25 H fun t79 h H => ⟨(hskip rfl (hskip rfl hnil)), ?_⟩
      refine tkP rfl ?_; refine R_nil H fun t80 H => ⟨fun _ => trivial, ?_⟩
      refine tkP rfl ?_; refine R_fld TF_129_2 H fun t81 H => ⟨fun _ => trivial, ?_⟩
      refine alt_n rfl ?_ vp_none
      refine H_store1 TS_25 H fun h H => ⟨hnil, ?_⟩
      refine vp_done ?_; refine WPc_seq (fun e h => BTreeG_I_nodeRebalance.j2 (e 0) (e 1) (e 2) (e 6) (e 7) h Q) ?_ (fun e h H => ?_)
      rotate_left
      · unfold BTreeG_I_nodeRebalance.j2 at H
        refine WPc_seq' ?_; refine W_drawn [0, 1, 3, 7, 0, 16, 48, 112, 240, 511, 1023, 2047, 4095] (.take 0 (.take 1 (.take 2 (.take 3 (.take 4 (.take 5 (.take 6 (.take 7 (.take 8 (.take 9 (.take 10 (.take 11 (.alt 12 .done .none))))))))))))) mixed (by kernel_rfl) ?_; refine tkP rfl ?_; refine R_move (v := (e 6)) rfl ⟨fun _ => trivial, ?_⟩
        refine tkP rfl ?_; refine R_nil H fun t104 H => ⟨fun _ => trivial, ?_⟩
        refine tkP rfl ?_; refine R_fld TF_129_1 H fun t105 H => ⟨fun _ => trivial, ?_⟩
        refine tkL rfl ?_; refine R_load1 T1_3 H fun at106 t106 hat106 _ H => ?_; refine tkP rfl ?_; refine R_move (v := (e 7)) rfl ⟨fun _ => trivial, ?_⟩
        refine tkP rfl ?_; refine R_nil H fun t108 H => ⟨fun _ => trivial, ?_⟩
        refine tkP rfl ?_; refine R_fld TF_129_1 H fun t109 H => ⟨fun _ => trivial, ?_⟩
        refine tkL rfl ?_; refine R_load1 T1_3 H fun at110 t110 hat110 _ H => ?_; refine tkP rfl ?_; refine R_add H fun t111 H => ⟨fun _ => trivial, ?_⟩
        refine tkP rfl ?_; refine R_add H fun t112 H => ⟨fun _ => trivial, ?_⟩
        refine tkP rfl ?_; refine R_nil H fun t113 H => ⟨fun _ => trivial, ?_⟩
        refine tkP rfl ?_; refine R_fld TF_129_1 H fun t114 H => ⟨fun _ => trivial, ?_⟩
        refine alt_n rfl ?_ vp_none
        refine H_store1 TS_3 H fun h H => ⟨(hskip rfl (hskip rfl hnil)), ?_⟩
        refine vp_done ?_; refine WPc_seq' ?_; refine W_drawn [0, 1, 3, 7, 0, 31, 0, 64, 192, 448, 0, 1024, 4032, 8191] (.take 0 (.take 1 (.take 2 (.take 3 (.take 4 (.take 5 (.take 6 (.take 7 (.take 8 (.take 9 (.take 10 (.take 11 (.take 12 (.alt 13 .done .none)))))))))))))) mixed (by kernel_rfl) ?_; refine tkP rfl ?_; refine R_move (v := (e 1)) rfl ⟨fun _ => trivial, ?_⟩
        refine tkP rfl ?_; refine R_nil H fun t116 H => ⟨fun _ => trivial, ?_⟩
        refine tkP rfl ?_; refine R_fld TF_129_2 H fun t117 H => ⟨fun _ => trivial, ?_⟩
        refine tkL rfl ?_; refine R_load1 T1_25 H fun at118 t118 hat118 _ H => ?_; refine tkP rfl ?_; refine R_move (v := (e 2)) rfl ⟨fun _ => trivial, ?_⟩
        refine tkP rfl ?_; refine R_slice TE_25 (by decide) H fun t120 H => ⟨fun _ => trivial, ?_⟩
        refine tkP rfl ?_; refine R_move (v := (e 1)) rfl ⟨fun _ => trivial, ?_⟩
        refine tkP rfl ?_; refine R_nil H fun t122 H => ⟨fun _ => trivial, ?_⟩
        refine tkP rfl ?_; refine R_fld TF_129_2 H fun t123 H => ⟨fun _ => trivial, ?_⟩
        refine tkL rfl ?_; refine R_load1 T1_25 H fun at124 t124 hat124 _ H => ?_; refine tkP rfl ?_; refine R_move (v := (e 2)) rfl ⟨fun _ => trivial, ?_⟩
        refine tkP rfl ?_; refine R_add H fun t126 H => ⟨fun _ => trivial, ?_⟩
        refine tkP rfl ?_; refine R_slice TE_25 (by decide) H fun t127 H => ⟨fun _ => trivial, ?_⟩
        refine alt_n rfl ?_ vp_none
        refine H_cpy TE_25 H fun t128 h H => ⟨(hskip rfl (hskip rfl hnil)), ?_⟩
        refine vp_done ?_; refine WPc_seq' ?_; refine W_drawn [0, 1, 3, 7, 0, 16, 48, 112, 240, 496, 0, 1024, 3072, 7168, 16383, 32767] (.take 0 (.take 1 (.take 2 (.take 3 (.take 4 (.take 5 (.take 6 (.take 7 (.take 8 (.take 9 (.take 10 (.take 11 (.take 12 (.take 13 (.take 14 (.alt 15 .done .none)))))))))))))))) mixed (by kernel_rfl) ?_; refine tkP rfl ?_; refine R_move (v := (e 1)) rfl ⟨fun _ => trivial, ?_⟩
        refine tkP rfl ?_; refine R_nil H fun t130 H => ⟨fun _ => trivial, ?_⟩
        refine tkP rfl ?_; refine R_fld TF_129_2 H fun t131 H => ⟨fun _ => trivial, ?_⟩
        refine tkL rfl ?_; refine R_load1 T1_25 H fun at132 t132 hat132 _ H => ?_; refine tkP rfl ?_; refine R_move (v := (e 1)) rfl ⟨fun _ => trivial, ?_⟩
        refine tkP rfl ?_; refine R_nil H fun t134 H => ⟨fun _ => trivial, ?_⟩
        refine tkP rfl ?_; refine R_fld TF_129_2 H fun t135 H => ⟨fun _ => trivial, ?_⟩
        refine tkL rfl ?_; refine R_load1 T1_25 H fun at136 t136 hat136 _ H => ?_; refine tkP rfl ?_; refine R_len Try.underlying25 H fun t137 H => ⟨fun _ => trivial, ?_⟩
        refine tkP rfl ?_; refine R_sub H fun t138 H => ⟨fun _ => trivial, ?_⟩
        refine tkP rfl ?_; refine R_move (v := (e 0)) rfl ⟨fun _ => trivial, ?_⟩
        refine tkP rfl ?_; refine R_nil H fun t140 H => ⟨fun _ => trivial, ?_⟩
        refine tkP rfl ?_; refine R_fld TF_117_7 H fun t141 H => ⟨fun _ => trivial, ?_⟩
        refine tkL rfl ?_; refine R_loadN TN_30 H fun at142 xt142 hat142 _ H St142 hSt142 => ?_; refine tkP rfl ?_; refine R_idx TE_25 H fun t143 H => ⟨fun _ => trivial, ?_⟩
        refine alt_n rfl ?_ vp_none
        refine H_storeN TS_30 H fun h H => ⟨(hskip rfl (hskip rfl (hskip rfl hnil))), ?_⟩
        refine vp_done ?_; refine WPc_seq' ?_; refine W_drawn [0, 0, 2, 6, 14, 0, 32, 96, 224, 480, 992, 2046, 4095, 8191, 16383] (.take 0 (.take 1 (.take 2 (.take 3 (.take 4 (.take 5 (.take 6 (.take 7 (.take 8 (.take 9 (.take 10 (.take 11 (.take 12 (.take 13 (.alt 14 .done .none))))))))))))))) mixed (by kernel_rfl) ?_; refine tkP rfl ?_; refine R_move (v := (e 1)) rfl ⟨fun _ => trivial, ?_⟩
        refine tkP rfl ?_; refine R_move (v := (e 1)) rfl ⟨fun _ => trivial, ?_⟩
        refine tkP rfl ?_; refine R_nil H fun t146 H => ⟨fun _ => trivial, ?_⟩
        refine tkP rfl ?_; refine R_fld TF_129_2 H fun t147 H => ⟨fun _ => trivial, ?_⟩
        refine tkL rfl ?_; refine R_load1 T1_25 H fun at148 t148 hat148 _ H => ?_; refine tkP rfl ?_; refine R_move (v := (e 1)) rfl ⟨fun _ => trivial, ?_⟩
        refine tkP rfl ?_; refine R_nil H fun t150 H => ⟨fun _ => trivial, ?_⟩
        refine tkP rfl ?_; refine R_fld TF_129_2 H fun t151 H => ⟨fun _ => trivial, ?_⟩
        refine tkL rfl ?_; refine R_load1 T1_25 H fun at152 t152 hat152 _ H => ?_; refine tkP rfl ?_; refine R_len Try.underlying25 H fun t153 H => ⟨fun _ => trivial, ?_⟩
        refine tkP rfl ?_; refine R_sub H fun t154 H => ⟨fun _ => trivial, ?_⟩
        refine tkP rfl ?_; refine R_slice TE_25 (by decide) H fun t155 H => ⟨fun _ => trivial, ?_⟩
        refine tkP rfl ?_; refine R_nil H fun t156 H => ⟨fun _ => trivial, ?_⟩
        refine tkP rfl ?_; refine R_fld TF_129_2 H fun t157 H => ⟨fun _ => trivial, ?_⟩
        refine alt_n rfl ?_ vp_none
        refine H_store1 TS_25 H fun h H => ⟨(hskip rfl (hskip rfl hnil)), ?_⟩
        refine vp_done ?_; refine WPc_seq' ?_; refine W_drawn [0, 1, 3, 7, 15, 31, 0, 64, 255, 0, 512, 1536, 3584, 7680, 15872, 0, 32768, 130560, 262143] (.take 0 (.take 1 (.take 2 (.take 3 (.take 4 (.take 5 (.take 6 (.take 7 (.take 8 (.take 9 (.take 10 (.take 11 (.take 12 (.take 13 (.take 14 (.take 15 (.take 16 (.take 17 (.alt 18 .done .none))))))))))))))))))) mixed (by kernel_rfl) ?_; refine tkP rfl ?_; refine R_move (v := (e 1)) rfl ⟨fun _ => trivial, ?_⟩
        refine tkP rfl ?_; refine R_nil H fun t159 H => ⟨fun _ => trivial, ?_⟩
        refine tkP rfl ?_; refine R_fld TF_129_3 H fun t160 H => ⟨fun _ => trivial, ?_⟩
        refine tkL rfl ?_; refine R_load1 T1_127 H fun at161 t161 hat161 _ H => ?_; refine tkP rfl ?_; refine R_nil H fun t162 H => ⟨fun _ => trivial, ?_⟩
        refine tkL rfl ?_; refine R_load1 T1_130 H fun at163 t163 hat163 _ H => ?_; refine tkP rfl ?_; refine R_move (v := (e 2)) rfl ⟨fun _ => trivial, ?_⟩
        refine tkP rfl ?_; refine R_add H fun t165 H => ⟨fun _ => trivial, ?_⟩
        refine tkP rfl ?_; refine R_slice TE_130 (by decide) H fun t166 H => ⟨fun _ => trivial, ?_⟩
        refine tkP rfl ?_; refine R_move (v := (e 1)) rfl ⟨fun _ => trivial, ?_⟩
        refine tkP rfl ?_; refine R_nil H fun t168 H => ⟨fun _ => trivial, ?_⟩
        refine tkP rfl ?_; refine R_fld TF_129_3 H fun t169 H => ⟨fun _ => trivial, ?_⟩
        refine tkL rfl ?_; refine R_load1 T1_127 H fun at170 t170 hat170 _ H => ?_; refine tkP rfl ?_; refine R_nil H fun t171 H => ⟨fun _ => trivial, ?_⟩
        refine tkL rfl ?_; refine R_load1 T1_130 H fun at172 t172 hat172 _ H => ?_; refine tkP rfl ?_; refine R_move (v := (e 2)) rfl ⟨fun _ => trivial, ?_⟩
        refine tkP rfl ?_; refine R_add H fun t174 H => ⟨fun _ => trivial, ?_⟩
        refine tkP rfl ?_; refine R_slice TE_130 (by decide) H fun t175 H => ⟨fun _ => trivial, ?_⟩
        refine alt_n rfl ?_ vp_none
        refine H_cpy TE_130 H fun t176 h H => ⟨(hskip rfl (hskip rfl (hskip rfl (hskip rfl hnil)))), ?_⟩
        refine vp_done ?_; refine WPc_seq' ?_; refine W_drawn [0, 1, 3, 7, 15, 31, 0, 64, 192, 448, 960, 1984, 4032, 8128, 16383, 32767] (.take 0 (.take 1 (.take 2 (.take 3 (.take 4 (.take 5 (.take 6 (.take 7 (.take 8 (.take 9 (.take 10 (.take 11 (.take 12 (.take 13 (.take 14 (.alt 15 .done .none)))))))))))))))) mixed (by kernel_rfl) ?_; refine tkP rfl ?_; refine R_move (v := (e 1)) rfl ⟨fun _ => trivial, ?_⟩
        refine tkP rfl ?_; refine R_nil H fun t178 H => ⟨fun _ => trivial, ?_⟩
        refine tkP rfl ?_; refine R_fld TF_129_3 H fun t179 H => ⟨fun _ => trivial, ?_⟩
        refine tkL rfl ?_; refine R_load1 T1_127 H fun at180 t180 hat180 _ H => ?_; refine tkP rfl ?_; refine R_nil H fun t181 H => ⟨fun _ => trivial, ?_⟩
        refine tkL rfl ?_; refine R_load1 T1_130 H fun at182 t182 hat182 _ H => ?_; refine tkP rfl ?_; refine R_move (v := (e 1)) rfl ⟨fun _ => trivial, ?_⟩
        refine tkP rfl ?_; refine R_nil H fun t184 H => ⟨fun _ => trivial, ?_⟩
        refine tkP rfl ?_; refine R_fld TF_129_3 H fun t185 H => ⟨fun _ => trivial, ?_⟩
        refine tkL rfl ?_; refine R_load1 T1_127 H fun at186 t186 hat186 _ H => ?_; refine tkP rfl ?_; refine R_nil H fun t187 H => ⟨fun _ => trivial, ?_⟩
        refine tkL rfl ?_; refine R_load1 T1_130 H fun at188 t188 hat188 _ H => ?_; refine tkP rfl ?_; refine R_len Try.underlying130 H fun t189 H => ⟨fun _ => trivial, ?_⟩
        refine tkP rfl ?_; refine R_sub H fun t190 H => ⟨fun _ => trivial, ?_⟩
        refine tkP rfl ?_; refine R_idx TE_130 H fun t191 H => ⟨fun _ => trivial, ?_⟩
        refine alt_n rfl ?_ vp_none
        refine H_store1 TS_115 H fun h H => ⟨(hskip rfl (hskip rfl (hskip rfl (hskip rfl hnil)))), ?_⟩
        refine vp_done ?_; refine W_drawn [0, 1, 3, 7, 0, 16, 48, 112, 240, 496, 0, 1024, 3072, 7168, 15360, 31744, 64512, 130048, 262128, 524287, 1048575] (.take 0 (.take 1 (.take 2 (.take 3 (.take 4 (.take 5 (.take 6 (.take 7 (.take 8 (.take 9 (.take 10 (.take 11 (.take 12 (.take 13 (.take 14 (.take 15 (.take 16 (.take 17 (.take 18 (.take 19 (.alt 20 .done .none))))))))))))))))))))) mixed (by kernel_rfl) ?_; refine tkP rfl ?_; refine R_move (v := (e 1)) rfl ⟨fun _ => trivial, ?_⟩
        refine tkP rfl ?_; refine R_nil H fun t193 H => ⟨fun _ => trivial, ?_⟩
        refine tkP rfl ?_; refine R_fld TF_129_3 H fun t194 H => ⟨fun _ => trivial, ?_⟩
        refine tkL rfl ?_; refine R_load1 T1_127 H fun at195 t195 hat195 _ H => ?_; refine tkP rfl ?_; refine R_move (v := (e 1)) rfl ⟨fun _ => trivial, ?_⟩
        refine tkP rfl ?_; refine R_nil H fun t197 H => ⟨fun _ => trivial, ?_⟩
        refine tkP rfl ?_; refine R_fld TF_129_3 H fun t198 H => ⟨fun _ => trivial, ?_⟩
        refine tkL rfl ?_; refine R_load1 T1_127 H fun at199 t199 hat199 _ H => ?_; refine tkP rfl ?_; refine R_nil H fun t200 H => ⟨fun _ => trivial, ?_⟩
        refine tkL rfl ?_; refine R_load1 T1_130 H fun at201 t201 hat201 _ H => ?_; refine tkP rfl ?_; refine R_move (v := (e 1)) rfl ⟨fun _ => trivial, ?_⟩
        refine tkP rfl ?_; refine R_nil H fun t203 H => ⟨fun _ => trivial, ?_⟩
        refine tkP rfl ?_; refine R_fld TF_129_3 H fun t204 H => ⟨fun _ => trivial, ?_⟩
        refine tkL rfl ?_; refine R_load1 T1_127 H fun at205 t205 hat205 _ H => ?_; refine tkP rfl ?_; refine R_nil H fun t206 H => ⟨fun _ => trivial, ?_⟩
        refine tkL rfl ?_; refine R_load1 T1_130 H fun at207 t207 hat207 _ H => ?_; refine tkP rfl ?_; refine R_len Try.underlying130 H fun t208 H => ⟨fun _ => trivial, ?_⟩
        refine tkP rfl ?_; refine R_sub H fun t209 H => ⟨fun _ => trivial, ?_⟩
        refine tkP rfl ?_; refine R_slice TE_130 (by decide) H fun t210 H => ⟨fun _ => trivial, ?_⟩
        refine tkP rfl ?_; refine R_nil H fun t211 H => ⟨fun _ => trivial, ?_⟩
        refine alt_n rfl ?_ vp_none
        refine H_store1 TS_130 H fun h H => ⟨(hskip rfl (hskip rfl (hskip rfl (hskip rfl (hskip rfl hnil))))), ?_⟩
        refine vp_done ?_; refine resH_of rfl ?_; exact H
      refine WPc_seq' ?_; refine W_region (by kernel_rfl) ?_; refine vl_n ?_; refine H_of_R (R_move (v := t26) rfl ?_)
      refine vl_n ?_; refine H_call HB_78 H fun t83 h H => ?_; refine vl_n ?_; refine H_of_R (R_not H fun t84 H => ?_)
      refine vl_e ?_; obtain ⟨b_2, hc_2, H1, H2⟩ := H; refine WPc_cond hc_2 (fun hh => ?_) (fun hh => ?_)
      · have H := H1 hh; clear H1 H2
        refine W_drawn [0, 1, 3, 7, 0, 16, 48, 112, 240, 496, 0, 1024, 3072, 7168, 15360, 31744, 65520, 131071, 262143] (.take 0 (.take 1 (.take 2 (.take 3 (.take 4 (.take 5 (.take 6 (.take 7 (.take 8 (.take 9 (.take 10 (.take 11 (.take 12 (.take 13 (.take 14 (.take 15 (.alt 16 (.take 17 (.alt 18 .done .none)) .none))))))))))))))))) mixed (by kernel_rfl) ?_; refine tkP rfl ?_; refine R_move (v := t26) rfl ⟨fun _ => trivial, ?_⟩
        refine tkP rfl ?_; refine R_nil H fun t86 H => ⟨fun _ => trivial, ?_⟩
        refine tkP rfl ?_; refine R_fld TF_129_3 H fun t87 H => ⟨fun _ => trivial, ?_⟩
        refine tkL rfl ?_; refine R_load1 T1_127 H fun at88 t88 hat88 _ H => ?_; refine tkP rfl ?_; refine R_move (v := t26) rfl ⟨fun _ => trivial, ?_⟩
        refine tkP rfl ?_; refine R_nil H fun t90 H => ⟨fun _ => trivial, ?_⟩
        refine tkP rfl ?_; refine R_fld TF_129_3 H fun t91 H => ⟨fun _ => trivial, ?_⟩
        refine tkL rfl ?_; refine R_load1 T1_127 H fun at92 t92 hat92 _ H => ?_; refine tkP rfl ?_; refine R_nil H fun t93 H => ⟨fun _ => trivial, ?_⟩
        refine tkL rfl ?_; refine R_load1 T1_130 H fun at94 t94 hat94 _ H => ?_; refine tkP rfl ?_; refine R_move (v := t37) rfl ⟨fun _ => trivial, ?_⟩
        refine tkP rfl ?_; refine R_nil H fun t96 H => ⟨fun _ => trivial, ?_⟩
        refine tkP rfl ?_; refine R_fld TF_129_3 H fun t97 H => ⟨fun _ => trivial, ?_⟩
        refine tkL rfl ?_; refine R_load1 T1_127 H fun at98 t98 hat98 _ H => ?_; refine tkP rfl ?_; refine R_nil H fun t99 H => ⟨fun _ => trivial, ?_⟩
        refine tkL rfl ?_; refine R_load1 T1_130 H fun at100 t100 hat100 _ H => ?_; refine alt_n rfl ?_ vp_none
        refine H_app TZ_130 TU_130 H fun t101 h ⟨S_2, H⟩ => ⟨(hskip rfl (hskip rfl (hskip rfl (hskip rfl (hcons rfl (still_1 S_2 hat88) hnil))))), ?_⟩
        refine tkP rfl ?_; refine R_nil H fun t102 H => ⟨fun _ => trivial, ?_⟩
        refine alt_n rfl ?_ vp_none
        refine H_store1 TS_130 H fun h H => ⟨(hskip rfl hnil), ?_⟩
        refine vp_done ?_; exact H
      · have H := H2 hh; clear H1 H2
        refine WPc_skip ?_; exact H
    · have H := H2 hh; clear H1 H2
      refine WPc_seq' ?_; refine W_drawn [0, 1, 3, 7, 15, 0, 32, 96, 224, 480, 1023] (.take 0 (.take 1 (.take 2 (.take 3 (.take 4 (.take 5 (.take 6 (.take 7 (.take 8 (.take 9 (.take 10 .done))))))))))) mixed (by kernel_rfl) ?_; refine tkP rfl ?_; refine R_move (v := t26) rfl ⟨fun _ => trivial, ?_⟩
      refine tkP rfl ?_; refine R_nil H fun t213 H => ⟨fun _ => trivial, ?_⟩
      refine tkP rfl ?_; refine R_fld TF_129_2 H fun t214 H => ⟨fun _ => trivial, ?_⟩
      refine tkL rfl ?_; refine R_load1 T1_25 H fun at215 t215 hat215 _ H => ?_; refine tkP rfl ?_; refine R_len Try.underlying25 H fun t216 H => ⟨fun _ => trivial, ?_⟩
      refine tkP rfl ?_; refine R_move (v := t37) rfl ⟨fun _ => trivial, ?_⟩
      refine tkP rfl ?_; refine R_nil H fun t218 H => ⟨fun _ => trivial, ?_⟩
      refine tkP rfl ?_; refine R_fld TF_129_2 H fun t219 H => ⟨fun _ => trivial, ?_⟩
      refine tkL rfl ?_; refine R_load1 T1_25 H fun at220 t220 hat220 _ H => ?_; refine tkP rfl ?_; refine R_len Try.underlying25 H fun t221 H => ⟨fun _ => trivial, ?_⟩
      refine tkP rfl ?_; refine R_gtr H fun t222 H => ⟨fun _ => trivial, ?_⟩
      refine vp_done ?_; obtain ⟨b_3, hc_3, H1, H2⟩ := H; refine WPc_cond hc_3 (fun hh => ?_) (fun hh => ?_)
      · have H := H1 hh; clear H1 H2
        refine WPc_seq' ?_; refine W_drawn [0, 0, 2, 6, 14, 0, 32, 96, 224, 480, 1022, 2047, 4095, 8191] (.take 0 (.take 1 (.take 2 (.take 3 (.take 4 (.take 5 (.take 6 (.take 7 (.take 8 (.alt 9 (.alt 10 (.take 11 (.take 12 (.alt 13 .done .none))) .none) .none)))))))))) mixed (by kernel_rfl) ?_; refine tkP rfl ?_; refine R_move (v := t37) rfl ⟨fun _ => trivial, ?_⟩
        refine tkP rfl ?_; refine R_move (v := t37) rfl ⟨fun _ => trivial, ?_⟩
        refine tkP rfl ?_; refine R_nil H fun t225 H => ⟨fun _ => trivial, ?_⟩
        refine tkP rfl ?_; refine R_fld TF_129_2 H fun t226 H => ⟨fun _ => trivial, ?_⟩
        refine tkL rfl ?_; refine R_load1 T1_25 H fun at227 t227 hat227 _ H => ?_; refine tkP rfl ?_; refine R_move (v := (e 0)) rfl ⟨fun _ => trivial, ?_⟩
        refine tkP rfl ?_; refine R_nil H fun t229 H => ⟨fun _ => trivial, ?_⟩
        refine tkP rfl ?_; refine R_fld TF_117_7 H fun t230 H => ⟨fun _ => trivial, ?_⟩
        refine tkL rfl ?_; refine R_loadN TN_30 H fun at231 xt231 hat231 _ H St231 hSt231 => ?_; refine alt_n rfl ?_ vp_none
        refine H_mkSl TZ_25 (by decide) rfl H rfl fun t232 h ⟨S_3, H⟩ => ⟨(hskip rfl (hcons rfl (still_1 S_3 hat227) hnil)), ?_⟩
        refine alt_n rfl ?_ vp_none
        refine H_app TZ_25 TU_25 H fun t233 h H => ⟨(hskip rfl hnil), ?_⟩
        refine tkP rfl ?_; refine R_nil H fun t234 H => ⟨fun _ => trivial, ?_⟩
        refine tkP rfl ?_; refine R_fld TF_129_2 H fun t235 H => ⟨fun _ => trivial, ?_⟩
        refine alt_n rfl ?_ vp_none
        refine H_store1 TS_25 H fun h H => ⟨hnil, ?_⟩
        refine vp_done ?_; refine WPc_seq' ?_; refine W_drawn [0, 1, 3, 7, 15, 0, 32, 96, 224, 511] (.take 0 (.take 1 (.take 2 (.take 3 (.take 4 (.take 5 (.take 6 (.take 7 (.take 8 (.alt 9 .done .none)))))))))) mixed (by kernel_rfl) ?_; refine tkP rfl ?_; refine R_move (v := t37) rfl ⟨fun _ => trivial, ?_⟩
        refine tkP rfl ?_; refine R_nil H fun t237 H => ⟨fun _ => trivial, ?_⟩
        refine tkP rfl ?_; refine R_fld TF_129_2 H fun t238 H => ⟨fun _ => trivial, ?_⟩
        refine tkL rfl ?_; refine R_load1 T1_25 H fun at239 t239 hat239 _ H => ?_; refine tkP rfl ?_; refine R_slice TE_25 (by decide) H fun t240 H => ⟨fun _ => trivial, ?_⟩
        refine tkP rfl ?_; refine R_move (v := t37) rfl ⟨fun _ => trivial, ?_⟩
        refine tkP rfl ?_; refine R_nil H fun t242 H => ⟨fun _ => trivial, ?_⟩
        refine tkP rfl ?_; refine R_fld TF_129_2 H fun t243 H => ⟨fun _ => trivial, ?_⟩
        refine tkL rfl ?_; refine R_load1 T1_25 H fun at244 t244 hat244 _ H => ?_; refine alt_n rfl ?_ vp_none
        refine H_cpy TE_25 H fun t245 h H => ⟨(hskip rfl (hskip rfl hnil)), ?_⟩
        refine vp_done ?_; refine WPc_seq' ?_; refine W_drawn [0, 1, 3, 7, 0, 16, 48, 112, 0, 496, 1008, 2047, 4095] (.take 0 (.take 1 (.take 2 (.take 3 (.take 4 (.take 5 (.take 6 (.take 7 (.take 8 (.take 9 (.take 10 (.take 11 (.alt 12 .done .none))))))))))))) mixed (by kernel_rfl) ?_; refine tkP rfl ?_; refine R_move (v := t37) rfl ⟨fun _ => trivial, ?_⟩
        refine tkP rfl ?_; refine R_nil H fun t247 H => ⟨fun _ => trivial, ?_⟩
        refine tkP rfl ?_; refine R_fld TF_129_2 H fun t248 H => ⟨fun _ => trivial, ?_⟩
        refine tkL rfl ?_; refine R_load1 T1_25 H fun at249 t249 hat249 _ H => ?_; refine tkP rfl ?_; refine R_move (v := (e 1)) rfl ⟨fun _ => trivial, ?_⟩
        refine tkP rfl ?_; refine R_nil H fun t251 H => ⟨fun _ => trivial, ?_⟩
        refine tkP rfl ?_; refine R_fld TF_129_2 H fun t252 H => ⟨fun _ => trivial, ?_⟩
        refine tkL rfl ?_; refine R_load1 T1_25 H fun at253 t253 hat253 _ H => ?_; refine tkP rfl ?_; refine R_move (v := (e 2)) rfl ⟨fun _ => trivial, ?_⟩
        refine tkP rfl ?_; refine R_idx TE_25 H fun t255 H => ⟨fun _ => trivial, ?_⟩
        refine tkL rfl ?_; refine R_loadN TN_30 H fun at256 xt256 hat256 _ H St256 hSt256 => ?_; refine tkP rfl ?_; refine R_idx TE_25 H fun t257 H => ⟨fun _ => trivial, ?_⟩
        refine alt_n rfl ?_ vp_none
        refine H_storeN TS_30 H fun h H => ⟨(hskip rfl (hskip rfl (hskip rfl hnil))), ?_⟩
        refine vp_done ?_; refine WPc_seq' ?_; refine W_region (by kernel_rfl) ?_; refine vl_n ?_; refine H_of_R (R_move (v := t37) rfl ?_)
        refine vl_n ?_; refine H_of_R (R_nil H fun t259 H => ?_)
        refine vl_n ?_; refine H_of_R (R_fld TF_129_1 H fun t260 H => ?_)
        refine vl_n ?_; refine H_of_R (R_load1 T1_3 H fun _ t261 _ _ H => ?_)
        refine vl_n ?_; refine H_of_R (R_add H fun t262 H => ?_)
        refine vl_n ?_; refine H_of_R (R_nil H fun t263 H => ?_)
        refine vl_n ?_; refine H_of_R (R_fld TF_129_1 H fun t264 H => ?_)
        refine vl_n ?_; refine H_store1 TS_3 H fun h H => ?_; refine vl_e ?_; refine WPc_seq' ?_; refine W_drawn [0, 1, 3, 7, 0, 0, 32, 96, 224, 0, 512, 1536, 3584, 7680, 15872, 32736, 65504, 131071, 262143] (.take 0 (.take 1 (.take 2 (.take 3 (.take 4 (.take 5 (.take 6 (.take 7 (.take 8 (.take 9 (.take 10 (.take 11 (.take 12 (.take 13 (.take 14 (.take 15 (.take 16 (.take 17 (.alt 18 .done .none))))))))))))))))))) mixed (by kernel_rfl) ?_; refine tkP rfl ?_; refine R_move (v := (e 1)) rfl ⟨fun _ => trivial, ?_⟩
        refine tkP rfl ?_; refine R_nil H fun t266 H => ⟨fun _ => trivial, ?_⟩
        refine tkP rfl ?_; refine R_fld TF_129_2 H fun t267 H => ⟨fun _ => trivial, ?_⟩
        refine tkL rfl ?_; refine R_load1 T1_25 H fun at268 t268 hat268 _ H => ?_; refine tkP rfl ?_; refine R_move (v := (e 2)) rfl ⟨fun _ => trivial, ?_⟩
        refine tkP rfl ?_; refine R_move (v := t26) rfl ⟨fun _ => trivial, ?_⟩
        refine tkP rfl ?_; refine R_nil H fun t271 H => ⟨fun _ => trivial, ?_⟩
        refine tkP rfl ?_; refine R_fld TF_129_2 H fun t272 H => ⟨fun _ => trivial, ?_⟩
        refine tkL rfl ?_; refine R_load1 T1_25 H fun at273 t273 hat273 _ H => ?_; refine tkP rfl ?_; refine R_move (v := t26) rfl ⟨fun _ => trivial, ?_⟩
        refine tkP rfl ?_; refine R_nil H fun t275 H => ⟨fun _ => trivial, ?_⟩
        refine tkP rfl ?_; refine R_fld TF_129_2 H fun t276 H => ⟨fun _ => trivial, ?_⟩
        refine tkL rfl ?_; refine R_load1 T1_25 H fun at277 t277 hat277 _ H => ?_; refine tkP rfl ?_; refine R_len Try.underlying25 H fun t278 H => ⟨fun _ => trivial, ?_⟩
        refine tkP rfl ?_; refine R_sub H fun t279 H => ⟨fun _ => trivial, ?_⟩
        refine tkP rfl ?_; refine R_idx TE_25 H fun t280 H => ⟨fun _ => trivial, ?_⟩
        refine tkL rfl ?_; refine R_loadN TN_30 H fun at281 xt281 hat281 _ H St281 hSt281 => ?_; refine tkP rfl ?_; refine R_idx TE_25 H fun t282 H => ⟨fun _ => trivial, ?_⟩
        refine alt_n rfl ?_ vp_none
        refine H_storeN TS_30 H fun h H => ⟨(hskip rfl (hskip rfl (hskip rfl (hskip rfl hnil)))), ?_⟩
        refine vp_done ?_; refine WPc_seq' ?_; refine W_drawn [0, 1, 3, 7, 0, 16, 48, 112, 240, 496, 0, 1024, 3072, 7168, 16383, 32767] (.take 0 (.take 1 (.take 2 (.take 3 (.take 4 (.take 5 (.take 6 (.take 7 (.take 8 (.take 9 (.take 10 (.take 11 (.take 12 (.take 13 (.take 14 (.alt 15 .done .none)))))))))))))))) mixed (by kernel_rfl) ?_; refine tkP rfl ?_; refine R_move (v := t26) rfl ⟨fun _ => trivial, ?_⟩
        refine tkP rfl ?_; refine R_nil H fun t284 H => ⟨fun _ => trivial, ?_⟩
        refine tkP rfl ?_; refine R_fld TF_129_2 H fun t285 H => ⟨fun _ => trivial, ?_⟩
        refine tkL rfl ?_; refine R_load1 T1_25 H fun at286 t286 hat286 _ H => ?_; refine tkP rfl ?_; refine R_move (v := t26) rfl ⟨fun _ => trivial, ?_⟩
        refine tkP rfl ?_; refine R_nil H fun t288 H => ⟨fun _ => trivial, ?_⟩
        refine tkP rfl ?_; refine R_fld TF_129_2 H fun t289 H => ⟨fun _ => trivial, ?_⟩
        refine tkL rfl ?_; refine R_load1 T1_25 H fun at290 t290 hat290 _ H => ?_; refine tkP rfl ?_; refine R_len Try.underlying25 H fun t291 H => ⟨fun _ => trivial, ?_⟩
        refine tkP rfl ?_; refine R_sub H fun t292 H => ⟨fun _ => trivial, ?_⟩
        refine tkP rfl ?_; refine R_move (v := (e 0)) rfl ⟨fun _ => trivial, ?_⟩
        refine tkP rfl ?_; refine R_nil H fun t294 H => ⟨fun _ => trivial, ?_⟩
        refine tkP rfl ?_; refine R_fld TF_117_7 H fun t295 H => ⟨fun _ => trivial, ?_⟩
        refine tkL rfl ?_; refine R_loadN TN_30 H fun at296 xt296 hat296 _ H St296 hSt296 => ?_; refine tkP rfl ?_; refine R_idx TE_25 H fun t297 H => ⟨fun _ => trivial, ?_⟩
        refine alt_n rfl ?_ vp_none
        refine H_storeN TS_30 H fun h H => ⟨(hskip rfl (hskip rfl (hskip rfl hnil))), ?_⟩
        refine vp_done ?_; refine WPc_seq' ?_; refine W_drawn [0, 0, 2, 6, 14, 0, 32, 96, 224, 480, 992, 2046, 4095, 8191, 16383] (.take 0 (.take 1 (.take 2 (.take 3 (.take 4 (.take 5 (.take 6 (.take 7 (.take 8 (.take 9 (.take 10 (.take 11 (.take 12 (.take 13 (.alt 14 .done .none))))))))))))))) mixed (by kernel_rfl) ?_; refine tkP rfl ?_; refine R_move (v := t26) rfl ⟨fun _ => trivial, ?_⟩
        refine tkP rfl ?_; refine R_move (v := t26) rfl ⟨fun _ => trivial, ?_⟩
        refine tkP rfl ?_; refine R_nil H fun t300 H => ⟨fun _ => trivial, ?_⟩
        refine tkP rfl ?_; refine R_fld TF_129_2 H fun t301 H => ⟨fun _ => trivial, ?_⟩
        refine tkL rfl ?_; refine R_load1 T1_25 H fun at302 t302 hat302 _ H => ?_; refine tkP rfl ?_; refine R_move (v := t26) rfl ⟨fun _ => trivial, ?_⟩
        refine tkP rfl ?_; refine R_nil H fun t304 H => ⟨fun _ => trivial, ?_⟩
        refine tkP rfl ?_; refine R_fld TF_129_2 H fun t305 H => ⟨fun _ => trivial, ?_⟩
        refine tkL rfl ?_; refine R_load1 T1_25 H fun at306 t306 hat306 _ H => ?_; refine tkP rfl ?_; refine R_len Try.underlying25 H fun t307 H => ⟨fun _ => trivial, ?_⟩
        refine tkP rfl ?_; refine R_sub H fun t308 H => ⟨fun _ => trivial, ?_⟩
        refine tkP rfl ?_; refine R_slice TE_25 (by decide) H fun t309 H => ⟨fun _ => trivial, ?_⟩
        refine tkP rfl ?_; refine R_nil H fun t310 H => ⟨fun _ => trivial, ?_⟩
        refine tkP rfl ?_; refine R_fld TF_129_2 H fun t311 H => ⟨fun _ => trivial, ?_⟩
        refine alt_n rfl ?_ vp_none
        refine H_store1 TS_25 H fun h H => ⟨(hskip rfl (hskip rfl hnil)), ?_⟩
        refine vp_done ?_; refine WPc_seq' ?_; refine W_region (by kernel_rfl) ?_; refine vl_n ?_; refine H_of_R (R_move (v := t26) rfl ?_)
        refine vl_n ?_; refine H_of_R (R_nil H fun t313 H => ?_)
        refine vl_n ?_; refine H_of_R (R_fld TF_129_1 H fun t314 H => ?_)
        refine vl_n ?_; refine H_of_R (R_load1 T1_3 H fun _ t315 _ _ H => ?_)
        refine vl_n ?_; refine H_of_R (R_sub H fun t316 H => ?_)
        refine vl_n ?_; refine H_of_R (R_nil H fun t317 H => ?_)
        refine vl_n ?_; refine H_of_R (R_fld TF_129_1 H fun t318 H => ?_)
        refine vl_n ?_; refine H_store1 TS_3 H fun h H => ?_; refine vl_e ?_; refine WPc_seq' ?_; refine W_region (by kernel_rfl) ?_; refine vl_n ?_; refine H_of_R (R_move (v := t26) rfl ?_)
        refine vl_n ?_; refine H_call HB_78 H fun t320 h H => ?_; refine vl_n ?_; refine H_of_R (R_not H fun t321 H => ?_)
        refine vl_e ?_; obtain ⟨b_4, hc_4, H1, H2⟩ := H; refine WPc_cond hc_4 (fun hh => ?_) (fun hh => ?_)
        · have H := H1 hh; clear H1 H2
          refine WPc_seq' ?_; refine W_drawn [0, 1, 3, 7, 0, 16, 48, 112, 240, 496, 0, 2032, 4095, 8191] (.take 0 (.take 1 (.take 2 (.take 3 (.take 4 (.take 5 (.take 6 (.take 7 (.take 8 (.take 9 (.alt 10 (.alt 11 (.take 12 (.alt 13 .done .none)) .none) .none))))))))))) mixed (by kernel_rfl) ?_; refine tkP rfl ?_; refine R_move (v := t37) rfl ⟨fun _ => trivial, ?_⟩
          refine tkP rfl ?_; refine R_nil H fun t323 H => ⟨fun _ => trivial, ?_⟩
          refine tkP rfl ?_; refine R_fld TF_129_3 H fun t324 H => ⟨fun _ => trivial, ?_⟩
          refine tkL rfl ?_; refine R_load1 T1_127 H fun at325 t325 hat325 _ H => ?_; refine tkP rfl ?_; refine R_move (v := t37) rfl ⟨fun _ => trivial, ?_⟩
          refine tkP rfl ?_; refine R_nil H fun t327 H => ⟨fun _ => trivial, ?_⟩
          refine tkP rfl ?_; refine R_fld TF_129_3 H fun t328 H => ⟨fun _ => trivial, ?_⟩
          refine tkL rfl ?_; refine R_load1 T1_127 H fun at329 t329 hat329 _ H => ?_; refine tkP rfl ?_; refine R_nil H fun t330 H => ⟨fun _ => trivial, ?_⟩
          refine tkL rfl ?_; refine R_load1 T1_130 H fun at331 t331 hat331 _ H => ?_; refine alt_n rfl ?_ vp_none
          refine H_mkSl TZ_130 (by decide) rfl H rfl fun t332 h ⟨S_4, S_5, S_6, H⟩ => ⟨(hcons rfl (still_1 S_6 hat331) (hcons rfl (still_1 S_5 hat329) (hcons rfl (still_1 S_4 hat325) hnil))), ?_⟩
          refine alt_n rfl ?_ vp_none
          refine H_app TZ_130 TU_130 H fun t333 h ⟨S_7, H⟩ => ⟨(hskip rfl (hskip rfl (hcons rfl (still_1 S_7 hat325) hnil))), ?_⟩
          refine tkP rfl ?_; refine R_nil H fun t334 H => ⟨fun _ => trivial, ?_⟩
          refine alt_n rfl ?_ vp_none
          refine H_store1 TS_130 H fun h H => ⟨(hskip rfl hnil), ?_⟩
          refine vp_done ?_; refine WPc_seq' ?_; refine W_drawn [0, 1, 3, 7, 15, 31, 63, 0, 128, 384, 896, 1920, 3968, 8191] (.take 0 (.take 1 (.take 2 (.take 3 (.take 4 (.take 5 (.take 6 (.take 7 (.take 8 (.take 9 (.take 10 (.take 11 (.take 12 (.alt 13 .done .none)))))))))))))) mixed (by kernel_rfl) ?_; refine tkP rfl ?_; refine R_move (v := t37) rfl ⟨fun _ => trivial, ?_⟩
          refine tkP rfl ?_; refine R_nil H fun t336 H => ⟨fun _ => trivial, ?_⟩
          refine tkP rfl ?_; refine R_fld TF_129_3 H fun t337 H => ⟨fun _ => trivial, ?_⟩
          refine tkL rfl ?_; refine R_load1 T1_127 H fun at338 t338 hat338 _ H => ?_; refine tkP rfl ?_; refine R_nil H fun t339 H => ⟨fun _ => trivial, ?_⟩
          refine tkL rfl ?_; refine R_load1 T1_130 H fun at340 t340 hat340 _ H => ?_; refine tkP rfl ?_; refine R_slice TE_130 (by decide) H fun t341 H => ⟨fun _ => trivial, ?_⟩
          refine tkP rfl ?_; refine R_move (v := t37) rfl ⟨fun _ => trivial, ?_⟩
          refine tkP rfl ?_; refine R_nil H fun t343 H => ⟨fun _ => trivial, ?_⟩
          refine tkP rfl ?_; refine R_fld TF_129_3 H fun t344 H => ⟨fun _ => trivial, ?_⟩
          refine tkL rfl ?_; refine R_load1 T1_127 H fun at345 t345 hat345 _ H => ?_; refine tkP rfl ?_; refine R_nil H fun t346 H => ⟨fun _ => trivial, ?_⟩
          refine tkL rfl ?_; refine R_load1 T1_130 H fun at347 t347 hat347 _ H => ?_; refine alt_n rfl ?_ vp_none
          refine H_cpy TE_130 H fun t348 h H => ⟨(hskip rfl (hskip rfl (hskip rfl (hskip rfl hnil)))), ?_⟩
          refine vp_done ?_; refine WPc_seq' ?_; refine W_drawn [0, 1, 3, 7, 15, 31, 0, 64, 192, 448, 960, 1984, 0, 4096, 12288, 28672, 61440, 126976, 258048, 520192, 1048512, 2097088, 4194303, 8388607] (.take 0 (.take 1 (.take 2 (.take 3 (.take 4 (.take 5 (.take 6 (.take 7 (.take 8 (.take 9 (.take 10 (.take 11 (.take 12 (.take 13 (.take 14 (.take 15 (.take 16 (.take 17 (.take 18 (.take 19 (.take 20 (.take 21 (.take 22 (.alt 23 .done .none)))))))))))))))))))))))) mixed (by kernel_rfl) ?_; refine tkP rfl ?_; refine R_move (v := t37) rfl ⟨fun _ => trivial, ?_⟩
          refine tkP rfl ?_; refine R_nil H fun t350 H => ⟨fun _ => trivial, ?_⟩
          refine tkP rfl ?_; refine R_fld TF_129_3 H fun t351 H => ⟨fun _ => trivial, ?_⟩
          refine tkL rfl ?_; refine R_load1 T1_127 H fun at352 t352 hat352 _ H => ?_; refine tkP rfl ?_; refine R_nil H fun t353 H => ⟨fun _ => trivial, ?_⟩
          refine tkL rfl ?_; refine R_load1 T1_130 H fun at354 t354 hat354 _ H => ?_; refine tkP rfl ?_; refine R_move (v := t26) rfl ⟨fun _ => trivial, ?_⟩
          refine tkP rfl ?_; refine R_nil H fun t356 H => ⟨fun _ => trivial, ?_⟩
          refine tkP rfl ?_; refine R_fld TF_129_3 H fun t357 H => ⟨fun _ => trivial, ?_⟩
          refine tkL rfl ?_; refine R_load1 T1_127 H fun at358 t358 hat358 _ H => ?_; refine tkP rfl ?_; refine R_nil H fun t359 H => ⟨fun _ => trivial, ?_⟩
          refine tkL rfl ?_; refine R_load1 T1_130 H fun at360 t360 hat360 _ H => ?_; refine tkP rfl ?_; refine R_move (v := t26) rfl ⟨fun _ => trivial, ?_⟩
          refine tkP rfl ?_; refine R_nil H fun t362 H => ⟨fun _ => trivial, ?_⟩
          refine tkP rfl ?_; refine R_fld TF_129_3 H fun t363 H => ⟨fun _ => trivial, ?_⟩
          refine tkL rfl ?_; refine R_load1 T1_127 H fun at364 t364 hat364 _ H => ?_; refine tkP rfl ?_; refine R_nil H fun t365 H => ⟨fun _ => trivial, ?_⟩
          refine tkL rfl ?_; refine R_load1 T1_130 H fun at366 t366 hat366 _ H => ?_; refine tkP rfl ?_; refine R_len Try.underlying130 H fun t367 H => ⟨fun _ => trivial, ?_⟩
          refine tkP rfl ?_; refine R_sub H fun t368 H => ⟨fun _ => trivial, ?_⟩
          refine tkP rfl ?_; refine R_idx TE_130 H fun t369 H => ⟨fun _ => trivial, ?_⟩
          refine tkL rfl ?_; refine R_load1 T1_115 H fun at370 t370 hat370 _ H => ?_; refine tkP rfl ?_; refine R_idx TE_130 H fun t371 H => ⟨fun _ => trivial, ?_⟩
          refine alt_n rfl ?_ vp_none
          refine H_store1 TS_115 H fun h H => ⟨(hskip rfl (hskip rfl (hskip rfl (hskip rfl (hskip rfl (hskip rfl (hskip rfl hnil))))))), ?_⟩
          refine vp_done ?_; refine WPc_seq' ?_; refine W_drawn [0, 1, 3, 7, 15, 31, 0, 64, 192, 448, 960, 1984, 4032, 8128, 16383, 32767] (.take 0 (.take 1 (.take 2 (.take 3 (.take 4 (.take 5 (.take 6 (.take 7 (.take 8 (.take 9 (.take 10 (.take 11 (.take 12 (.take 13 (.take 14 (.alt 15 .done .none)))))))))))))))) mixed (by kernel_rfl) ?_; refine tkP rfl ?_; refine R_move (v := t26) rfl ⟨fun _ => trivial, ?_⟩
          refine tkP rfl ?_; refine R_nil H fun t373 H => ⟨fun _ => trivial, ?_⟩
          refine tkP rfl ?_; refine R_fld TF_129_3 H fun t374 H => ⟨fun _ => trivial, ?_⟩
          refine tkL rfl ?_; refine R_load1 T1_127 H fun at375 t375 hat375 _ H => ?_; refine tkP rfl ?_; refine R_nil H fun t376 H => ⟨fun _ => trivial, ?_⟩
          refine tkL rfl ?_; refine R_load1 T1_130 H fun at377 t377 hat377 _ H => ?_; refine tkP rfl ?_; refine R_move (v := t26) rfl ⟨fun _ => trivial, ?_⟩
          refine tkP rfl ?_; refine R_nil H fun t379 H => ⟨fun _ => trivial, ?_⟩
          refine tkP rfl ?_; refine R_fld TF_129_3 H fun t380 H => ⟨fun _ => trivial, ?_⟩
          refine tkL rfl ?_; refine R_load1 T1_127 H fun at381 t381 hat381 _ H => ?_; refine tkP rfl ?_; refine R_nil H fun t382 H => ⟨fun _ => trivial, ?_⟩
          refine tkL rfl ?_; refine R_load1 T1_130 H fun at383 t383 hat383 _ H => ?_; refine tkP rfl ?_; refine R_len Try.underlying130 H fun t384 H => ⟨fun _ => trivial, ?_⟩
          refine tkP rfl ?_; refine R_sub H fun t385 H => ⟨fun _ => trivial, ?_⟩
          refine tkP rfl ?_; refine R_idx TE_130 H fun t386 H => ⟨fun _ => trivial, ?_⟩
          refine alt_n rfl ?_ vp_none
          refine H_store1 TS_115 H fun h H => ⟨(hskip rfl (hskip rfl (hskip rfl (hskip rfl hnil)))), ?_⟩
          refine vp_done ?_; refine WPc_seq' ?_; refine W_drawn [0, 1, 3, 7, 0, 16, 48, 112, 240, 496, 0, 1024, 3072, 7168, 15360, 31744, 64512, 130048, 262128, 524287, 1048575] (.take 0 (.take 1 (.take 2 (.take 3 (.take 4 (.take 5 (.take 6 (.take 7 (.take 8 (.take 9 (.take 10 (.take 11 (.take 12 (.take 13 (.take 14 (.take 15 (.take 16 (.take 17 (.take 18 (.take 19 (.alt 20 .done .none))))))))))))))))))))) mixed (by kernel_rfl) ?_; refine tkP rfl ?_; refine R_move (v := t26) rfl ⟨fun _ => trivial, ?_⟩
          refine tkP rfl ?_; refine R_nil H fun t388 H => ⟨fun _ => trivial, ?_⟩
          refine tkP rfl ?_; refine R_fld TF_129_3 H fun t389 H => ⟨fun _ => trivial, ?_⟩
          refine tkL rfl ?_; refine R_load1 T1_127 H fun at390 t390 hat390 _ H => ?_; refine tkP rfl ?_; refine R_move (v := t26) rfl ⟨fun _ => trivial, ?_⟩
          refine tkP rfl ?_; refine R_nil H fun t392 H => ⟨fun _ => trivial, ?_⟩
          refine tkP rfl ?_; refine R_fld TF_129_3 H fun t393 H => ⟨fun _ => trivial, ?_⟩
          refine tkL rfl ?_; refine R_load1 T1_127 H fun at394 t394 hat394 _ H => ?_; refine tkP rfl ?_; refine R_nil H fun t395 H => ⟨fun _ => trivial, ?_⟩
          refine tkL rfl ?_; refine R_load1 T1_130 H fun at396 t396 hat396 _ H => ?_; refine tkP rfl ?_; refine R_move (v := t26) rfl ⟨fun _ => trivial, ?_⟩
          refine tkP rfl ?_; refine R_nil H fun t398 H => ⟨fun _ => trivial, ?_⟩
          refine tkP rfl ?_; refine R_fld TF_129_3 H fun t399 H => ⟨fun _ => trivial, ?_⟩
          refine tkL rfl ?_; refine R_load1 T1_127 H fun at400 t400 hat400 _ H => ?_; refine tkP rfl ?_; refine R_nil H fun t401 H => ⟨fun _ => trivial, ?_⟩
          refine tkL rfl ?_; refine R_load1 T1_130 H fun at402 t402 hat402 _ H => ?_; refine tkP rfl ?_; refine R_len Try.underlying130 H fun t403 H => ⟨fun _ => trivial, ?_⟩
          refine tkP rfl ?_; refine R_sub H fun t404 H => ⟨fun _ => trivial, ?_⟩
          refine tkP rfl ?_; refine R_slice TE_130 (by decide) H fun t405 H => ⟨fun _ => trivial, ?_⟩
          refine tkP rfl ?_; refine R_nil H fun t406 H => ⟨fun _ => trivial, ?_⟩
          refine alt_n rfl ?_ vp_none
          refine H_store1 TS_130 H fun h H => ⟨(hskip rfl (hskip rfl (hskip rfl (hskip rfl (hskip rfl hnil))))), ?_⟩
          refine vp_done ?_; refine WPc_seq' ?_; refine W_drawn [0, 1, 3, 7, 0, 16, 48, 112, 240, 496, 1008, 2032, 4080, 8176, 16368, 32767, 65535, 131071, 262143] (.take 0 (.take 1 (.take 2 (.take 3 (.take 4 (.take 5 (.take 6 (.take 7 (.take 8 (.take 9 (.take 10 (.take 11 (.take 12 (.take 13 (.take 14 (.take 15 (.take 16 (.take 17 (.alt 18 .done .none))))))))))))))))))) mixed (by kernel_rfl) ?_; refine tkP rfl ?_; refine R_move (v := t26) rfl ⟨fun _ => trivial, ?_⟩
          refine tkP rfl ?_; refine R_nil H fun t408 H => ⟨fun _ => trivial, ?_⟩
          refine tkP rfl ?_; refine R_fld TF_129_1 H fun t409 H => ⟨fun _ => trivial, ?_⟩
          refine tkL rfl ?_; refine R_load1 T1_3 H fun at410 t410 hat410 _ H => ?_; refine tkP rfl ?_; refine R_move (v := t37) rfl ⟨fun _ => trivial, ?_⟩
          refine tkP rfl ?_; refine R_nil H fun t412 H => ⟨fun _ => trivial, ?_⟩
          refine tkP rfl ?_; refine R_fld TF_129_3 H fun t413 H => ⟨fun _ => trivial, ?_⟩
          refine tkL rfl ?_; refine R_load1 T1_127 H fun at414 t414 hat414 _ H => ?_; refine tkP rfl ?_; refine R_nil H fun t415 H => ⟨fun _ => trivial, ?_⟩
          refine tkL rfl ?_; refine R_load1 T1_130 H fun at416 t416 hat416 _ H => ?_; refine tkP rfl ?_; refine R_idx TE_130 H fun t417 H => ⟨fun _ => trivial, ?_⟩
          refine tkL rfl ?_; refine R_load1 T1_115 H fun at418 t418 hat418 _ H => ?_; refine tkP rfl ?_; refine R_nil H fun t419 H => ⟨fun _ => trivial, ?_⟩
          refine tkP rfl ?_; refine R_fld TF_129_1 H fun t420 H => ⟨fun _ => trivial, ?_⟩
          refine tkL rfl ?_; refine R_load1 T1_3 H fun at421 t421 hat421 _ H => ?_; refine tkP rfl ?_; refine R_sub H fun t422 H => ⟨fun _ => trivial, ?_⟩
          refine tkP rfl ?_; refine R_nil H fun t423 H => ⟨fun _ => trivial, ?_⟩
          refine tkP rfl ?_; refine R_fld TF_129_1 H fun t424 H => ⟨fun _ => trivial, ?_⟩
          refine alt_n rfl ?_ vp_none
          refine H_store1 TS_3 H fun h H => ⟨(hskip rfl (hskip rfl (hskip rfl (hskip rfl (hskip rfl hnil))))), ?_⟩
          refine vp_done ?_; refine W_drawn [0, 1, 3, 7, 0, 16, 48, 112, 240, 496, 1008, 2032, 4080, 8176, 16368, 32767, 65535, 131071, 262143] (.take 0 (.take 1 (.take 2 (.take 3 (.take 4 (.take 5 (.take 6 (.take 7 (.take 8 (.take 9 (.take 10 (.take 11 (.take 12 (.take 13 (.take 14 (.take 15 (.take 16 (.take 17 (.alt 18 .done .none))))))))))))))))))) mixed (by kernel_rfl) ?_; refine tkP rfl ?_; refine R_move (v := t37) rfl ⟨fun _ => trivial, ?_⟩
          refine tkP rfl ?_; refine R_nil H fun t426 H => ⟨fun _ => trivial, ?_⟩
          refine tkP rfl ?_; refine R_fld TF_129_1 H fun t427 H => ⟨fun _ => trivial, ?_⟩
          refine tkL rfl ?_; refine R_load1 T1_3 H fun at428 t428 hat428 _ H => ?_; refine tkP rfl ?_; refine R_move (v := t37) rfl ⟨fun _ => trivial, ?_⟩
          refine tkP rfl ?_; refine R_nil H fun t430 H => ⟨fun _ => trivial, ?_⟩
          refine tkP rfl ?_; refine R_fld TF_129_3 H fun t431 H => ⟨fun _ => trivial, ?_⟩
          refine tkL rfl ?_; refine R_load1 T1_127 H fun at432 t432 hat432 _ H => ?_; refine tkP rfl ?_; refine R_nil H fun t433 H => ⟨fun _ => trivial, ?_⟩
          refine tkL rfl ?_; refine R_load1 T1_130 H fun at434 t434 hat434 _ H => ?_; refine tkP rfl ?_; refine R_idx TE_130 H fun t435 H => ⟨fun _ => trivial, ?_⟩
          refine tkL rfl ?_; refine R_load1 T1_115 H fun at436 t436 hat436 _ H => ?_; refine tkP rfl ?_; refine R_nil H fun t437 H => ⟨fun _ => trivial, ?_⟩
          refine tkP rfl ?_; refine R_fld TF_129_1 H fun t438 H => ⟨fun _ => trivial, ?_⟩
          refine tkL rfl ?_; refine R_load1 T1_3 H fun at439 t439 hat439 _ H => ?_; refine tkP rfl ?_; refine R_add H fun t440 H => ⟨fun _ => trivial, ?_⟩
          refine tkP rfl ?_; refine R_nil H fun t441 H => ⟨fun _ => trivial, ?_⟩
          refine tkP rfl ?_; refine R_fld TF_129_1 H fun t442 H => ⟨fun _ => trivial, ?_⟩
          refine alt_n rfl ?_ vp_none
          refine H_store1 TS_3 H fun h H => ⟨(hskip rfl (hskip rfl (hskip rfl (hskip rfl (hskip rfl hnil))))), ?_⟩
          refine vp_done ?_; refine resH_of rfl ?_; exact H
        · have H := H2 hh; clear H1 H2
          refine WPc_skip ?_; refine resH_of rfl ?_; exact H
      · have H := H2 hh; clear H1 H2
        refine WPc_seq' ?_; refine W_drawn [0, 0, 2, 6, 14, 0, 32, 96, 224, 0, 992, 2016, 4064, 8190, 16383, 32767, 65535] (.take 0 (.take 1 (.take 2 (.take 3 (.take 4 (.take 5 (.take 6 (.take 7 (.take 8 (.take 9 (.take 10 (.take 11 (.alt 12 (.alt 13 (.take 14 (.take 15 (.alt 16 .done .none))) .none) .none))))))))))))) mixed (by kernel_rfl) ?_; refine tkP rfl ?_; refine R_move (v := t26) rfl ⟨fun _ => trivial, ?_⟩
        refine tkP rfl ?_; refine R_move (v := t26) rfl ⟨fun _ => trivial, ?_⟩
        refine tkP rfl ?_; refine R_nil H fun t445 H => ⟨fun _ => trivial, ?_⟩
        refine tkP rfl ?_; refine R_fld TF_129_2 H fun t446 H => ⟨fun _ => trivial, ?_⟩
        refine tkL rfl ?_; refine R_load1 T1_25 H fun at447 t447 hat447 _ H => ?_; refine tkP rfl ?_; refine R_move (v := (e 1)) rfl ⟨fun _ => trivial, ?_⟩
        refine tkP rfl ?_; refine R_nil H fun t449 H => ⟨fun _ => trivial, ?_⟩
        refine tkP rfl ?_; refine R_fld TF_129_2 H fun t450 H => ⟨fun _ => trivial, ?_⟩
        refine tkL rfl ?_; refine R_load1 T1_25 H fun at451 t451 hat451 _ H => ?_; refine tkP rfl ?_; refine R_move (v := (e 2)) rfl ⟨fun _ => trivial, ?_⟩
        refine tkP rfl ?_; refine R_idx TE_25 H fun t453 H => ⟨fun _ => trivial, ?_⟩
        refine tkL rfl ?_; refine R_loadN TN_30 H fun at454 xt454 hat454 _ H St454 hSt454 => ?_; refine alt_n rfl ?_ vp_none
        refine H_mkSl TZ_25 (by decide) rfl H rfl fun t455 h ⟨S_8, H⟩ => ⟨(hskip rfl (hskip rfl (hcons rfl (still_1 S_8 hat447) hnil))), ?_⟩
        refine alt_n rfl ?_ vp_none
        refine H_app TZ_25 TU_25 H fun t456 h H => ⟨(hskip rfl hnil), ?_⟩
        refine tkP rfl ?_; refine R_nil H fun t457 H => ⟨fun _ => trivial, ?_⟩
        refine tkP rfl ?_; refine R_fld TF_129_2 H fun t458 H => ⟨fun _ => trivial, ?_⟩
        refine alt_n rfl ?_ vp_none
        refine H_store1 TS_25 H fun h H => ⟨hnil, ?_⟩
        refine vp_done ?_; refine WPc_seq' ?_; refine W_region (by kernel_rfl) ?_; refine vl_n ?_; refine H_of_R (R_move (v := t26) rfl ?_)
        refine vl_n ?_; refine H_of_R (R_nil H fun t460 H => ?_)
        refine vl_n ?_; refine H_of_R (R_fld TF_129_1 H fun t461 H => ?_)
        refine vl_n ?_; refine H_of_R (R_load1 T1_3 H fun _ t462 _ _ H => ?_)
        refine vl_n ?_; refine H_of_R (R_add H fun t463 H => ?_)
        refine vl_n ?_; refine H_of_R (R_nil H fun t464 H => ?_)
        refine vl_n ?_; refine H_of_R (R_fld TF_129_1 H fun t465 H => ?_)
        refine vl_n ?_; refine H_store1 TS_3 H fun h H => ?_; refine vl_e ?_; refine WPc_seq' ?_; refine W_drawn [0, 1, 3, 7, 0, 0, 32, 96, 224, 480, 992, 2047, 4095] (.take 0 (.take 1 (.take 2 (.take 3 (.take 4 (.take 5 (.take 6 (.take 7 (.take 8 (.take 9 (.take 10 (.take 11 (.alt 12 .done .none))))))))))))) mixed (by kernel_rfl) ?_; refine tkP rfl ?_; refine R_move (v := (e 1)) rfl ⟨fun _ => trivial, ?_⟩
        refine tkP rfl ?_; refine R_nil H fun t467 H => ⟨fun _ => trivial, ?_⟩
        refine tkP rfl ?_; refine R_fld TF_129_2 H fun t468 H => ⟨fun _ => trivial, ?_⟩
        refine tkL rfl ?_; refine R_load1 T1_25 H fun at469 t469 hat469 _ H => ?_; refine tkP rfl ?_; refine R_move (v := (e 2)) rfl ⟨fun _ => trivial, ?_⟩
        refine tkP rfl ?_; refine R_move (v := t37) rfl ⟨fun _ => trivial, ?_⟩
        refine tkP rfl ?_; refine R_nil H fun t472 H => ⟨fun _ => trivial, ?_⟩
        refine tkP rfl ?_; refine R_fld TF_129_2 H fun t473 H => ⟨fun _ => trivial, ?_⟩
        refine tkL rfl ?_; refine R_load1 T1_25 H fun at474 t474 hat474 _ H => ?_; refine tkP rfl ?_; refine R_idx TE_25 H fun t475 H => ⟨fun _ => trivial, ?_⟩
        refine tkL rfl ?_; refine R_loadN TN_30 H fun at476 xt476 hat476 _ H St476 hSt476 => ?_; refine tkP rfl ?_; refine R_idx TE_25 H fun t477 H => ⟨fun _ => trivial, ?_⟩
        refine alt_n rfl ?_ vp_none
        refine H_storeN TS_30 H fun h H => ⟨(hskip rfl (hskip rfl (hskip rfl hnil))), ?_⟩
        refine vp_done ?_; refine WPc_seq' ?_; refine W_drawn [0, 1, 3, 7, 0, 16, 48, 112, 240, 511] (.take 0 (.take 1 (.take 2 (.take 3 (.take 4 (.take 5 (.take 6 (.take 7 (.take 8 (.alt 9 .done .none)))))))))) mixed (by kernel_rfl) ?_; refine tkP rfl ?_; refine R_move (v := t37) rfl ⟨fun _ => trivial, ?_⟩
        refine tkP rfl ?_; refine R_nil H fun t479 H => ⟨fun _ => trivial, ?_⟩
        refine tkP rfl ?_; refine R_fld TF_129_2 H fun t480 H => ⟨fun _ => trivial, ?_⟩
        refine tkL rfl ?_; refine R_load1 T1_25 H fun at481 t481 hat481 _ H => ?_; refine tkP rfl ?_; refine R_move (v := t37) rfl ⟨fun _ => trivial, ?_⟩
        refine tkP rfl ?_; refine R_nil H fun t483 H => ⟨fun _ => trivial, ?_⟩
        refine tkP rfl ?_; refine R_fld TF_129_2 H fun t484 H => ⟨fun _ => trivial, ?_⟩
        refine tkL rfl ?_; refine R_load1 T1_25 H fun at485 t485 hat485 _ H => ?_; refine tkP rfl ?_; refine R_slice TE_25 (by decide) H fun t486 H => ⟨fun _ => trivial, ?_⟩
        refine alt_n rfl ?_ vp_none
        refine H_cpy TE_25 H fun t487 h H => ⟨(hskip rfl (hskip rfl hnil)), ?_⟩
        refine vp_done ?_; refine WPc_seq' ?_; refine W_drawn [0, 1, 3, 7, 0, 16, 48, 112, 240, 496, 0, 1024, 3072, 7168, 16383, 32767] (.take 0 (.take 1 (.take 2 (.take 3 (.take 4 (.take 5 (.take 6 (.take 7 (.take 8 (.take 9 (.take 10 (.take 11 (.take 12 (.take 13 (.take 14 (.alt 15 .done .none)))))))))))))))) mixed (by kernel_rfl) ?_; refine tkP rfl ?_; refine R_move (v := t37) rfl ⟨fun _ => trivial, ?_⟩
        refine tkP rfl ?_; refine R_nil H fun t489 H => ⟨fun _ => trivial, ?_⟩
        refine tkP rfl ?_; refine R_fld TF_129_2 H fun t490 H => ⟨fun _ => trivial, ?_⟩
        refine tkL rfl ?_; refine R_load1 T1_25 H fun at491 t491 hat491 _ H => ?_; refine tkP rfl ?_; refine R_move (v := t37) rfl ⟨fun _ => trivial, ?_⟩
        refine tkP rfl ?_; refine R_nil H fun t493 H => ⟨fun _ => trivial, ?_⟩
        refine tkP rfl ?_; refine R_fld TF_129_2 H fun t494 H => ⟨fun _ => trivial, ?_⟩
        refine tkL rfl ?_; refine R_load1 T1_25 H fun at495 t495 hat495 _ H => ?_; refine tkP rfl ?_; refine R_len Try.underlying25 H fun t496 H => ⟨fun _ => trivial, ?_⟩
        refine tkP rfl ?_; refine R_sub H fun t497 H => ⟨fun _ => trivial, ?_⟩
        refine tkP rfl ?_; refine R_move (v := (e 0)) rfl ⟨fun _ => trivial, ?_⟩
        refine tkP rfl ?_; refine R_nil H fun t499 H => ⟨fun _ => trivial, ?_⟩
        refine tkP rfl ?_; refine R_fld TF_117_7 H fun t500 H => ⟨fun _ => trivial, ?_⟩
        refine tkL rfl ?_; refine R_loadN TN_30 H fun at501 xt501 hat501 _ H St501 hSt501 => ?_; refine tkP rfl ?_; refine R_idx TE_25 H fun t502 H => ⟨fun _ => trivial, ?_⟩
        refine alt_n rfl ?_ vp_none
        refine H_storeN TS_30 H fun h H => ⟨(hskip rfl (hskip rfl (hskip rfl hnil))), ?_⟩
        refine vp_done ?_; refine WPc_seq' ?_; refine W_drawn [0, 0, 2, 6, 14, 0, 32, 96, 224, 480, 992, 2046, 4095, 8191, 16383] (.take 0 (.take 1 (.take 2 (.take 3 (.take 4 (.take 5 (.take 6 (.take 7 (.take 8 (.take 9 (.take 10 (.take 11 (.take 12 (.take 13 (.alt 14 .done .none))))))))))))))) mixed (by kernel_rfl) ?_; refine tkP rfl ?_; refine R_move (v := t37) rfl ⟨fun _ => trivial, ?_⟩
        refine tkP rfl ?_; refine R_move (v := t37) rfl ⟨fun _ => trivial, ?_⟩
        refine tkP rfl ?_; refine R_nil H fun t505 H => ⟨fun _ => trivial, ?_⟩
        refine tkP rfl ?_; refine R_fld TF_129_2 H fun t506 H => ⟨fun _ => trivial, ?_⟩
        refine tkL rfl ?_; refine R_load1 T1_25 H fun at507 t507 hat507 _ H => ?_; refine tkP rfl ?_; refine R_move (v := t37) rfl ⟨fun _ => trivial, ?_⟩
        refine tkP rfl ?_; refine R_nil H fun t509 H => ⟨fun _ => trivial, ?_⟩
        refine tkP rfl ?_; refine R_fld TF_129_2 H fun t510 H => ⟨fun _ => trivial, ?_⟩
        refine tkL rfl ?_; refine R_load1 T1_25 H fun at511 t511 hat511 _ H => ?_; refine tkP rfl ?_; refine R_len Try.underlying25 H fun t512 H => ⟨fun _ => trivial, ?_⟩
        refine tkP rfl ?_; refine R_sub H fun t513 H => ⟨fun _ => trivial, ?_⟩
        refine tkP rfl ?_; refine R_slice TE_25 (by decide) H fun t514 H => ⟨fun _ => trivial, ?_⟩
        refine tkP rfl ?_; refine R_nil H fun t515 H => ⟨fun _ => trivial, ?_⟩
        refine tkP rfl ?_; refine R_fld TF_129_2 H fun t516 H => ⟨fun _ => trivial, ?_⟩
        refine alt_n rfl ?_ vp_none
        refine H_store1 TS_25 H fun h H => ⟨(hskip rfl (hskip rfl hnil)), ?_⟩
        refine vp_done ?_; refine WPc_seq' ?_; refine W_region (by kernel_rfl) ?_; refine vl_n ?_; refine H_of_R (R_move (v := t37) rfl ?_)
        refine vl_n ?_; refine H_of_R (R_nil H fun t518 H => ?_)
        refine vl_n ?_; refine H_of_R (R_fld TF_129_1 H fun t519 H => ?_)
        refine vl_n ?_; refine H_of_R (R_load1 T1_3 H fun _ t520 _ _ H => ?_)
        refine vl_n ?_; refine H_of_R (R_sub H fun t521 H => ?_)
        refine vl_n ?_; refine H_of_R (R_nil H fun t522 H => ?_)
        refine vl_n ?_; refine H_of_R (R_fld TF_129_1 H fun t523 H => ?_)
        refine vl_n ?_; refine H_store1 TS_3 H fun h H => ?_; refine vl_e ?_; refine WPc_seq' ?_; refine W_region (by kernel_rfl) ?_; refine vl_n ?_; refine H_of_R (R_move (v := t26) rfl ?_)
        refine vl_n ?_; refine H_call HB_78 H fun t525 h H => ?_; refine vl_n ?_; refine H_of_R (R_not H fun t526 H => ?_)
        refine vl_e ?_; obtain ⟨b_5, hc_5, H1, H2⟩ := H; refine WPc_cond hc_5 (fun hh => ?_) (fun hh => ?_)
        · have H := H1 hh; clear H1 H2
          refine WPc_seq' ?_; refine W_drawn [0, 1, 3, 7, 0, 16, 48, 112, 240, 496, 0, 1024, 3072, 7168, 15360, 31744, 64512, 130048, 261120, 524272, 1048575, 2097151] (.take 0 (.take 1 (.take 2 (.take 3 (.take 4 (.take 5 (.take 6 (.take 7 (.take 8 (.take 9 (.take 10 (.take 11 (.take 12 (.take 13 (.take 14 (.take 15 (.take 16 (.take 17 (.alt 18 (.alt 19 (.take 20 (.alt 21 .done .none)) .none) .none))))))))))))))))))) mixed (by kernel_rfl) ?_; refine tkP rfl ?_; refine R_move (v := t26) rfl ⟨fun _ => trivial, ?_⟩
          refine tkP rfl ?_; refine R_nil H fun t528 H => ⟨fun _ => trivial, ?_⟩
          refine tkP rfl ?_; refine R_fld TF_129_3 H fun t529 H => ⟨fun _ => trivial, ?_⟩
          refine tkL rfl ?_; refine R_load1 T1_127 H fun at530 t530 hat530 _ H => ?_; refine tkP rfl ?_; refine R_move (v := t26) rfl ⟨fun _ => trivial, ?_⟩
          refine tkP rfl ?_; refine R_nil H fun t532 H => ⟨fun _ => trivial, ?_⟩
          refine tkP rfl ?_; refine R_fld TF_129_3 H fun t533 H => ⟨fun _ => trivial, ?_⟩
          refine tkL rfl ?_; refine R_load1 T1_127 H fun at534 t534 hat534 _ H => ?_; refine tkP rfl ?_; refine R_nil H fun t535 H => ⟨fun _ => trivial, ?_⟩
          refine tkL rfl ?_; refine R_load1 T1_130 H fun at536 t536 hat536 _ H => ?_; refine tkP rfl ?_; refine R_move (v := t37) rfl ⟨fun _ => trivial, ?_⟩
          refine tkP rfl ?_; refine R_nil H fun t538 H => ⟨fun _ => trivial, ?_⟩
          refine tkP rfl ?_; refine R_fld TF_129_3 H fun t539 H => ⟨fun _ => trivial, ?_⟩
          refine tkL rfl ?_; refine R_load1 T1_127 H fun at540 t540 hat540 _ H => ?_; refine tkP rfl ?_; refine R_nil H fun t541 H => ⟨fun _ => trivial, ?_⟩
          refine tkL rfl ?_; refine R_load1 T1_130 H fun at542 t542 hat542 _ H => ?_; refine tkP rfl ?_; refine R_idx TE_130 H fun t543 H => ⟨fun _ => trivial, ?_⟩
          refine tkL rfl ?_; refine R_load1 T1_115 H fun at544 t544 hat544 _ H => ?_; refine alt_n rfl ?_ vp_none
          refine H_mkSl TZ_130 (by decide) rfl H rfl fun t545 h ⟨S_9, S_10, S_11, H⟩ => ⟨(hskip rfl (hskip rfl (hskip rfl (hcons rfl (still_1 S_11 hat536) (hcons rfl (still_1 S_10 hat534) (hcons rfl (still_1 S_9 hat530) hnil)))))), ?_⟩
          refine alt_n rfl ?_ vp_none
          refine H_app TZ_130 TU_130 H fun t546 h ⟨S_12, H⟩ => ⟨(hskip rfl (hskip rfl (hcons rfl (still_1 S_12 hat530) hnil))), ?_⟩
          refine tkP rfl ?_; refine R_nil H fun t547 H => ⟨fun _ => trivial, ?_⟩
          refine alt_n rfl ?_ vp_none
          refine H_store1 TS_130 H fun h H => ⟨(hskip rfl hnil), ?_⟩
          refine vp_done ?_; refine WPc_seq' ?_; refine W_drawn [0, 1, 3, 7, 15, 31, 0, 64, 192, 448, 960, 1984, 4032, 8191] (.take 0 (.take 1 (.take 2 (.take 3 (.take 4 (.take 5 (.take 6 (.take 7 (.take 8 (.take 9 (.take 10 (.take 11 (.take 12 (.alt 13 .done .none)))))))))))))) mixed (by kernel_rfl) ?_; refine tkP rfl ?_; refine R_move (v := t37) rfl ⟨fun _ => trivial, ?_⟩
          refine tkP rfl ?_; refine R_nil H fun t549 H => ⟨fun _ => trivial, ?_⟩
          refine tkP rfl ?_; refine R_fld TF_129_3 H fun t550 H => ⟨fun _ => trivial, ?_⟩
          refine tkL rfl ?_; refine R_load1 T1_127 H fun at551 t551 hat551 _ H => ?_; refine tkP rfl ?_; refine R_nil H fun t552 H => ⟨fun _ => trivial, ?_⟩
          refine tkL rfl ?_; refine R_load1 T1_130 H fun at553 t553 hat553 _ H => ?_; refine tkP rfl ?_; refine R_move (v := t37) rfl ⟨fun _ => trivial, ?_⟩
          refine tkP rfl ?_; refine R_nil H fun t555 H => ⟨fun _ => trivial, ?_⟩
          refine tkP rfl ?_; refine R_fld TF_129_3 H fun t556 H => ⟨fun _ => trivial, ?_⟩
          refine tkL rfl ?_; refine R_load1 T1_127 H fun at557 t557 hat557 _ H => ?_; refine tkP rfl ?_; refine R_nil H fun t558 H => ⟨fun _ => trivial, ?_⟩
          refine tkL rfl ?_; refine R_load1 T1_130 H fun at559 t559 hat559 _ H => ?_; refine tkP rfl ?_; refine R_slice TE_130 (by decide) H fun t560 H => ⟨fun _ => trivial, ?_⟩
          refine alt_n rfl ?_ vp_none
          refine H_cpy TE_130 H fun t561 h H => ⟨(hskip rfl (hskip rfl (hskip rfl (hskip rfl hnil)))), ?_⟩
          refine vp_done ?_; refine WPc_seq' ?_; refine W_drawn [0, 1, 3, 7, 15, 31, 0, 64, 192, 448, 960, 1984, 4032, 8128, 16383, 32767] (.take 0 (.take 1 (.take 2 (.take 3 (.take 4 (.take 5 (.take 6 (.take 7 (.take 8 (.take 9 (.take 10 (.take 11 (.take 12 (.take 13 (.take 14 (.alt 15 .done .none)))))))))))))))) mixed (by kernel_rfl) ?_; refine tkP rfl ?_; refine R_move (v := t37) rfl ⟨fun _ => trivial, ?_⟩
          refine tkP rfl ?_; refine R_nil H fun t563 H => ⟨fun _ => trivial, ?_⟩
          refine tkP rfl ?_; refine R_fld TF_129_3 H fun t564 H => ⟨fun _ => trivial, ?_⟩
          refine tkL rfl ?_; refine R_load1 T1_127 H fun at565 t565 hat565 _ H => ?_; refine tkP rfl ?_; refine R_nil H fun t566 H => ⟨fun _ => trivial, ?_⟩
          refine tkL rfl ?_; refine R_load1 T1_130 H fun at567 t567 hat567 _ H => ?_; refine tkP rfl ?_; refine R_move (v := t37) rfl ⟨fun _ => trivial, ?_⟩
          refine tkP rfl ?_; refine R_nil H fun t569 H => ⟨fun _ => trivial, ?_⟩
          refine tkP rfl ?_; refine R_fld TF_129_3 H fun t570 H => ⟨fun _ => trivial, ?_⟩
          refine tkL rfl ?_; refine R_load1 T1_127 H fun at571 t571 hat571 _ H => ?_; refine tkP rfl ?_; refine R_nil H fun t572 H => ⟨fun _ => trivial, ?_⟩
          refine tkL rfl ?_; refine R_load1 T1_130 H fun at573 t573 hat573 _ H => ?_; refine tkP rfl ?_; refine R_len Try.underlying130 H fun t574 H => ⟨fun _ => trivial, ?_⟩
          refine tkP rfl ?_; refine R_sub H fun t575 H => ⟨fun _ => trivial, ?_⟩
          refine tkP rfl ?_; refine R_idx TE_130 H fun t576 H => ⟨fun _ => trivial, ?_⟩
          refine alt_n rfl ?_ vp_none
          refine H_store1 TS_115 H fun h H => ⟨(hskip rfl (hskip rfl (hskip rfl (hskip rfl hnil)))), ?_⟩
          refine vp_done ?_; refine WPc_seq' ?_; refine W_drawn [0, 1, 3, 7, 0, 16, 48, 112, 240, 496, 0, 1024, 3072, 7168, 15360, 31744, 64512, 130048, 262128, 524287, 1048575] (.take 0 (.take 1 (.take 2 (.take 3 (.take 4 (.take 5 (.take 6 (.take 7 (.take 8 (.take 9 (.take 10 (.take 11 (.take 12 (.take 13 (.take 14 (.take 15 (.take 16 (.take 17 (.take 18 (.take 19 (.alt 20 .done .none))))))))))))))))))))) mixed (by kernel_rfl) ?_; refine tkP rfl ?_; refine R_move (v := t37) rfl ⟨fun _ => trivial, ?_⟩
          refine tkP rfl ?_; refine R_nil H fun t578 H => ⟨fun _ => trivial, ?_⟩
          refine tkP rfl ?_; refine R_fld TF_129_3 H fun t579 H => ⟨fun _ => trivial, ?_⟩
          refine tkL rfl ?_; refine R_load1 T1_127 H fun at580 t580 hat580 _ H => ?_; refine tkP rfl ?_; refine R_move (v := t37) rfl ⟨fun _ => trivial, ?_⟩
          refine tkP rfl ?_; refine R_nil H fun t582 H => ⟨fun _ => trivial, ?_⟩
          refine tkP rfl ?_; refine R_fld TF_129_3 H fun t583 H => ⟨fun _ => trivial, ?_⟩
          refine tkL rfl ?_; refine R_load1 T1_127 H fun at584 t584 hat584 _ H => ?_; refine tkP rfl ?_; refine R_nil H fun t585 H => ⟨fun _ => trivial, ?_⟩
          refine tkL rfl ?_; refine R_load1 T1_130 H fun at586 t586 hat586 _ H => ?_; refine tkP rfl ?_; refine R_move (v := t37) rfl ⟨fun _ => trivial, ?_⟩
          refine tkP rfl ?_; refine R_nil H fun t588 H => ⟨fun _ => trivial, ?_⟩
          refine tkP rfl ?_; refine R_fld TF_129_3 H fun t589 H => ⟨fun _ => trivial, ?_⟩
          refine tkL rfl ?_; refine R_load1 T1_127 H fun at590 t590 hat590 _ H => ?_; refine tkP rfl ?_; refine R_nil H fun t591 H => ⟨fun _ => trivial, ?_⟩
          refine tkL rfl ?_; refine R_load1 T1_130 H fun at592 t592 hat592 _ H => ?_; refine tkP rfl ?_; refine R_len Try.underlying130 H fun t593 H => ⟨fun _ => trivial, ?_⟩
          refine tkP rfl ?_; refine R_sub H fun t594 H => ⟨fun _ => trivial, ?_⟩
          refine tkP rfl ?_; refine R_slice TE_130 (by decide) H fun t595 H => ⟨fun _ => trivial, ?_⟩
          refine tkP rfl ?_; refine R_nil H fun t596 H => ⟨fun _ => trivial, ?_⟩
          refine alt_n rfl ?_ vp_none
          refine H_store1 TS_130 H fun h H => ⟨(hskip rfl (hskip rfl (hskip rfl (hskip rfl (hskip rfl hnil))))), ?_⟩
          refine vp_done ?_; refine WPc_seq' ?_; refine W_drawn [0, 1, 3, 7, 0, 16, 48, 112, 240, 496, 0, 1024, 3072, 7168, 15360, 31744, 64512, 130048, 262128, 524272, 1048560, 2097136, 4194288, 8388607, 16777215, 33554431, 67108863] (.take 0 (.take 1 (.take 2 (.take 3 (.take 4 (.take 5 (.take 6 (.take 7 (.take 8 (.take 9 (.take 10 (.take 11 (.take 12 (.take 13 (.take 14 (.take 15 (.take 16 (.take 17 (.take 18 (.take 19 (.take 20 (.take 21 (.take 22 (.take 23 (.take 24 (.take 25 (.alt 26 .done .none))))))))))))))))))))))))))) mixed (by kernel_rfl) ?_; refine tkP rfl ?_; refine R_move (v := t26) rfl ⟨fun _ => trivial, ?_⟩
          refine tkP rfl ?_; refine R_nil H fun t598 H => ⟨fun _ => trivial, ?_⟩
          refine tkP rfl ?_; refine R_fld TF_129_1 H fun t599 H => ⟨fun _ => trivial, ?_⟩
          refine tkL rfl ?_; refine R_load1 T1_3 H fun at600 t600 hat600 _ H => ?_; refine tkP rfl ?_; refine R_move (v := t26) rfl ⟨fun _ => trivial, ?_⟩
          refine tkP rfl ?_; refine R_nil H fun t602 H => ⟨fun _ => trivial, ?_⟩
          refine tkP rfl ?_; refine R_fld TF_129_3 H fun t603 H => ⟨fun _ => trivial, ?_⟩
          refine tkL rfl ?_; refine R_load1 T1_127 H fun at604 t604 hat604 _ H => ?_; refine tkP rfl ?_; refine R_nil H fun t605 H => ⟨fun _ => trivial, ?_⟩
          refine tkL rfl ?_; refine R_load1 T1_130 H fun at606 t606 hat606 _ H => ?_; refine tkP rfl ?_; refine R_move (v := t26) rfl ⟨fun _ => trivial, ?_⟩
          refine tkP rfl ?_; refine R_nil H fun t608 H => ⟨fun _ => trivial, ?_⟩
          refine tkP rfl ?_; refine R_fld TF_129_3 H fun t609 H => ⟨fun _ => trivial, ?_⟩
          refine tkL rfl ?_; refine R_load1 T1_127 H fun at610 t610 hat610 _ H => ?_; refine tkP rfl ?_; refine R_nil H fun t611 H => ⟨fun _ => trivial, ?_⟩
          refine tkL rfl ?_; refine R_load1 T1_130 H fun at612 t612 hat612 _ H => ?_; refine tkP rfl ?_; refine R_len Try.underlying130 H fun t613 H => ⟨fun _ => trivial, ?_⟩
          refine tkP rfl ?_; refine R_sub H fun t614 H => ⟨fun _ => trivial, ?_⟩
          refine tkP rfl ?_; refine R_idx TE_130 H fun t615 H => ⟨fun _ => trivial, ?_⟩
          refine tkL rfl ?_; refine R_load1 T1_115 H fun at616 t616 hat616 _ H => ?_; refine tkP rfl ?_; refine R_nil H fun t617 H => ⟨fun _ => trivial, ?_⟩
          refine tkP rfl ?_; refine R_fld TF_129_1 H fun t618 H => ⟨fun _ => trivial, ?_⟩
          refine tkL rfl ?_; refine R_load1 T1_3 H fun at619 t619 hat619 _ H => ?_; refine tkP rfl ?_; refine R_add H fun t620 H => ⟨fun _ => trivial, ?_⟩
          refine tkP rfl ?_; refine R_nil H fun t621 H => ⟨fun _ => trivial, ?_⟩
          refine tkP rfl ?_; refine R_fld TF_129_1 H fun t622 H => ⟨fun _ => trivial, ?_⟩
          refine alt_n rfl ?_ vp_none
          refine H_store1 TS_3 H fun h H => ⟨(hskip rfl (hskip rfl (hskip rfl (hskip rfl (hskip rfl (hskip rfl (hskip rfl hnil))))))), ?_⟩
          refine vp_done ?_; refine W_drawn [0, 1, 3, 7, 0, 16, 48, 112, 240, 496, 0, 1024, 3072, 7168, 15360, 31744, 64512, 130048, 262128, 524272, 1048560, 2097136, 4194288, 8388607, 16777215, 33554431, 67108863] (.take 0 (.take 1 (.take 2 (.take 3 (.take 4 (.take 5 (.take 6 (.take 7 (.take 8 (.take 9 (.take 10 (.take 11 (.take 12 (.take 13 (.take 14 (.take 15 (.take 16 (.take 17 (.take 18 (.take 19 (.take 20 (.take 21 (.take 22 (.take 23 (.take 24 (.take 25 (.alt 26 .done .none))))))))))))))))))))))))))) mixed (by kernel_rfl) ?_; refine tkP rfl ?_; refine R_move (v := t37) rfl ⟨fun _ => trivial, ?_⟩
          refine tkP rfl ?_; refine R_nil H fun t624 H => ⟨fun _ => trivial, ?_⟩
          refine tkP rfl ?_; refine R_fld TF_129_1 H fun t625 H => ⟨fun _ => trivial, ?_⟩
          refine tkL rfl ?_; refine R_load1 T1_3 H fun at626 t626 hat626 _ H => ?_; refine tkP rfl ?_; refine R_move (v := t26) rfl ⟨fun _ => trivial, ?_⟩
          refine tkP rfl ?_; refine R_nil H fun t628 H => ⟨fun _ => trivial, ?_⟩
          refine tkP rfl ?_; refine R_fld TF_129_3 H fun t629 H => ⟨fun _ => trivial, ?_⟩
          refine tkL rfl ?_; refine R_load1 T1_127 H fun at630 t630 hat630 _ H => ?_; refine tkP rfl ?_; refine R_nil H fun t631 H => ⟨fun _ => trivial, ?_⟩
          refine tkL rfl ?_; refine R_load1 T1_130 H fun at632 t632 hat632 _ H => ?_; refine tkP rfl ?_; refine R_move (v := t26) rfl ⟨fun _ => trivial, ?_⟩
          refine tkP rfl ?_; refine R_nil H fun t634 H => ⟨fun _ => trivial, ?_⟩
          refine tkP rfl ?_; refine R_fld TF_129_3 H fun t635 H => ⟨fun _ => trivial, ?_⟩
          refine tkL rfl ?_; refine R_load1 T1_127 H fun at636 t636 hat636 _ H => ?_; refine tkP rfl ?_; refine R_nil H fun t637 H => ⟨fun _ => trivial, ?_⟩
          refine tkL rfl ?_; refine R_load1 T1_130 H fun at638 t638 hat638 _ H => ?_; refine tkP rfl ?_; refine R_len Try.underlying130 H fun t639 H => ⟨fun _ => trivial, ?_⟩
          refine tkP rfl ?_; refine R_sub H fun t640 H => ⟨fun _ => trivial, ?_⟩
          refine tkP rfl ?_; refine R_idx TE_130 H fun t641 H => ⟨fun _ => trivial, ?_⟩
          refine tkL rfl ?_; refine R_load1 T1_115 H fun at642 t642 hat642 _ H => ?_; refine tkP rfl ?_; refine R_nil H fun t643 H => ⟨fun _ => trivial, ?_⟩
          refine tkP rfl ?_; refine R_fld TF_129_1 H fun t644 H => ⟨fun _ => trivial, ?_⟩
          refine tkL rfl ?_; refine R_load1 T1_3 H fun at645 t645 hat645 _ H => ?_; refine tkP rfl ?_; refine R_sub H fun t646 H => ⟨fun _ => trivial, ?_⟩
          refine tkP rfl ?_; refine R_nil H fun t647 H => ⟨fun _ => trivial, ?_⟩
          refine tkP rfl ?_; refine R_fld TF_129_1 H fun t648 H => ⟨fun _ => trivial, ?_⟩
          refine alt_n rfl ?_ vp_none
          refine H_store1 TS_3 H fun h H => ⟨(hskip rfl (hskip rfl (hskip rfl (hskip rfl (hskip rfl (hskip rfl (hskip rfl hnil))))))), ?_⟩
          refine vp_done ?_; refine resH_of rfl ?_; exact H
        · have H := H2 hh; clear H1 H2
          refine WPc_skip ?_; refine resH_of rfl ?_; exact H
  refine WPc_seq' ?_; refine W_region (by kernel_rfl) ?_; refine vl_n ?_; refine H_of_R (R_move (v := a2) rfl ?_)
  refine vl_n ?_; refine H_of_R (R_move (v := a1) rfl ?_)
  refine vl_n ?_; refine H_of_R (R_nil H fun t10 H => ?_)
  refine vl_n ?_; refine H_of_R (R_fld TF_129_2 H fun t11 H => ?_)
  refine vl_n ?_; refine H_of_R (R_load1 T1_25 H fun _ t12 _ _ H => ?_)
  refine vl_n ?_; refine H_of_R (R_len Try.underlying25 H fun t13 H => ?_)
  refine vl_n ?_; refine H_of_R (R_eqI H fun t14 H => ?_)
  refine vl_e ?_; obtain ⟨b, hc, H1, H2⟩ := H; refine WPc_cond hc (fun hh => ?_) (fun hh => ?_)
  · have H := H1 hh; clear H1 H2
    refine W_region (by kernel_rfl) ?_; refine vl_n ?_; refine H_of_R (R_move (v := a2) rfl ?_)
    refine vl_n ?_; refine H_of_R (R_sub H fun t16 H => ?_)
    refine vl_n ?_; refine H_of_R (R_assign (v := t16) rfl ?_)
    refine vl_e ?_; exact H
  · have H := H2 hh; clear H1 H2
    refine WPc_skip ?_; exact H
end Go.Proofs.Ythpmeccnddchpaa
end
section
namespace Go.Proofs.Ythpmeccnddchpaa
open Go.Hp
set_option maxRecDepth 100000
set_option maxHeartbeats 8000000
/-! ### (*pub/tidwallbtree.BTreeG[impl.Item]).delete -/
def BTreeG_I_delete.j5 (s12 s18 : Value) (h : Heap) (Q : Value → Heap → Prop) : Prop := loadN 2 s18 h fun t211 => storeN 2 s12 t211 h fun h => loadN 2 s12 h fun r12 => Q (.tuple #[r12, (.bool true)]) h
def BTreeG_I_delete.j4 (s0 s12 s14 s15 s18 : Value) (h : Heap) (Q : Value → Heap → Prop) : Prop := nilck s14 fun t183 => fld 1 t183 fun t184 => load1 t184 h fun t185 => arith (· - ·) t185 (.int .i64 1) fun t186 => nilck s14 fun t187 => fld 1 t187 fun t188 => store1 t188 t186 h fun h => nilck s14 fun t190 => fld 3 t190 fun t191 => load1 t191 h fun t192 => nilck t192 fun t193 => load1 t193 h fun t194 => idx 1 t194 s15 fun t196 => load1 t196 h fun t197 => nilck t197 fun t198 => fld 2 t198 fun t199 => load1 t199 h fun t200 => lenV t200 fun t201 => nilck s0 fun t203 => fld 10 t203 fun t204 => load1 t204 h fun t205 => cmpI (fun a b => decide (a < b)) t201 t205 fun t206 => ifV t206 (BTreeG_I_nodeRebalance.call #[s0, s14, s15] h fun t210 h => BTreeG_I_delete.j5 s12 s18 h Q) (BTreeG_I_delete.j5 s12 s18 h Q)
def BTreeG_I_delete.j3 (s0 s12 s14 s15 s18 s19 : Value) (h : Heap) (Q : Value → Heap → Prop) : Prop := notV s19 fun t177 => ifV t177 (nilck s0 fun t179 => fld 7 t179 fun t180 => loadN 2 t180 h fun t181 => storeN 2 s12 t181 h fun h => loadN 2 s12 h fun r12 => Q (.tuple #[r12, (.bool false)]) h) (BTreeG_I_delete.j4 s0 s12 s14 s15 s18 h Q)
def BTreeG_I_delete.j2 (s0 s2 s4 s5 s9 s12 s14 s15 s16 : Value) (h : Heap) (Q : Value → Heap → Prop) : Prop := alloc [(.int .i64 0), (.int .i64 0)] 30 h fun t18 h => ifV s16 (ifV s2 (arith (· + ·) s15 (.int .i64 1) fun t109 => nilck s14 fun t113 => fld 3 t113 fun t114 => load1 t114 h fun t115 => nilck t115 fun t116 => load1 t116 h fun t117 => idx 1 t117 t109 fun t119 => nilck s0 fun t121 => fld 7 t121 fun t122 => loadN 2 t122 h fun t123 => BTreeG_I_delete.call #[s0, t119, (.bool true), t123, (.pointer none), (.int .i64 0)] h fun t124 h => extr 0 t124 fun t125 => extr 1 t124 fun t126 => storeN 2 t18 t125 h fun h => BTreeG_I_delete.j3 s0 s12 s14 t109 t18 t126 h Q) (nilck s14 fun t128 => fld 2 t128 fun t129 => load1 t129 h fun t130 => idx 2 t130 s15 fun t132 => loadN 2 t132 h fun t133 => storeN 2 t18 t133 h fun h => nilck s14 fun t137 => fld 3 t137 fun t138 => load1 t138 h fun t139 => nilck t139 fun t140 => load1 t140 h fun t141 => idx 1 t141 s15 fun t143 => nilck s0 fun t145 => fld 7 t145 fun t146 => loadN 2 t146 h fun t147 => (BTreeG_I_delete.call #[s0, t143, (.bool true), t147, (.pointer none), (.int .i64 0)] h fun t148 h => extr 0 t148 fun t149 => extr 1 t148 fun t150 => alloc [(.int .i64 0), (.int .i64 0)] 30 h fun t20 h => storeN 2 t20 t149 h fun h => nilck s14 fun t152 => fld 2 t152 fun t153 => load1 t153 h fun t154 => loadN 2 t20 h fun t156 => idx 2 t154 s15 fun t157 => storeN 2 t157 t156 h fun h => BTreeG_I_delete.j3 s0 s12 s14 s15 t18 (.bool true) h Q) ∧ (alloc [(.int .i64 0), (.int .i64 0)] 30 h fun t20_2 h => still1 t138 t139 h ∧ still1 t140 t141 h ∧ stillN 2 t146 t147 h ∧ BTreeG_I_delete.call #[s0, t143, (.bool true), t147, (.pointer none), (.int .i64 0)] h fun t148_2 h => extr 0 t148_2 fun t149_2 => extr 1 t148_2 fun t150_2 => storeN 2 t20_2 t149_2 h fun h => nilck s14 fun t152_2 => fld 2 t152_2 fun t153_2 => load1 t153_2 h fun t154_2 => loadN 2 t20_2 h fun t156_2 => idx 2 t154_2 s15 fun t157_2 => storeN 2 t157_2 t156_2 h fun h => BTreeG_I_delete.j3 s0 s12 s14 s15 t18 (.bool true) h Q))) (nilck s14 fun t161 => fld 3 t161 fun t162 => load1 t162 h fun t163 => nilck t163 fun t164 => load1 t164 h fun t165 => idx 1 t165 s15 fun t167 => loadN 2 s9 h fun t169 => arith (· + ·) s5 (.int .i64 1) fun t172 => BTreeG_I_delete.call #[s0, t167, s2, t169, s4, t172] h fun t173 h => extr 0 t173 fun t174 => extr 1 t173 fun t175 => storeN 2 t18 t174 h fun h => BTreeG_I_delete.j3 s0 s12 s14 s15 t18 t175 h Q)
def BTreeG_I_delete.j6 (s0 s12 : Value) (h : Heap) (Q : Value → Heap → Prop) : Prop := nilck s0 fun t103 => fld 7 t103 fun t104 => loadN 2 t104 h fun t105 => storeN 2 s12 t105 h fun h => loadN 2 s12 h fun r12 => Q (.tuple #[r12, (.bool false)]) h
def BTreeG_I_delete.j1 (s0 s2 s4 s5 s9 s12 s14 s15 s16 : Value) (h : Heap) (Q : Value → Heap → Prop) : Prop := node_I_leaf.call #[s14] h fun t42 h => ifV t42 (ifV s16 (nilck s14 fun t45 => fld 2 t45 fun t46 => load1 t46 h fun t47 => idx 2 t47 s15 fun t49 => loadN 2 t49 h fun t50 => alloc [(.int .i64 0), (.int .i64 0)] 30 h fun t17 h => storeN 2 t17 t50 h fun h => nilck s14 fun t52 => fld 2 t52 fun t53 => load1 t53 h fun t54 => slc 2 t54 (some s15) none none fun t56 => nilck s14 fun t58 => fld 2 t58 fun t59 => load1 t59 h fun t60 => arith (· + ·) s15 (.int .i64 1) fun t62 => slc 2 t60 (some t62) none none fun t63 => cpy 2 t56 t63 h fun t64 h => nilck s14 fun t66 => fld 2 t66 fun t67 => load1 t67 h fun t68 => nilck s14 fun t70 => fld 2 t70 fun t71 => load1 t71 h fun t72 => lenV t72 fun t73 => arith (· - ·) t73 (.int .i64 1) fun t74 => nilck s0 fun t76 => fld 7 t76 fun t77 => loadN 2 t77 h fun t78 => idx 2 t68 t74 fun t79 => storeN 2 t79 t78 h fun h => nilck s14 fun t82 => fld 2 t82 fun t83 => load1 t83 h fun t84 => nilck s14 fun t86 => fld 2 t86 fun t87 => load1 t87 h fun t88 => lenV t88 fun t89 => arith (· - ·) t89 (.int .i64 1) fun t90 => slc 2 t84 none (some t90) none fun t91 => nilck s14 fun t92 => fld 2 t92 fun t93 => store1 t93 t91 h fun h => nilck s14 fun t95 => fld 1 t95 fun t96 => load1 t96 h fun t97 => arith (· - ·) t97 (.int .i64 1) fun t98 => nilck s14 fun t99 => fld 1 t99 fun t100 => store1 t100 t98 h fun h => loadN 2 t17 h fun t101 => storeN 2 s12 t101 h fun h => loadN 2 s12 h fun r12 => Q (.tuple #[r12, (.bool true)]) h) (BTreeG_I_delete.j6 s0 s12 h Q)) (BTreeG_I_delete.j2 s0 s2 s4 s5 s9 s12 s14 s15 s16 h Q)
def BTreeG_I_delete.sh (a0 a1 a2 a3 a4 a5 : Value) (h : Heap) (Q : Value → Heap → Prop) : Prop := box 30 a3 h fun t9 h => alloc [(.int .i64 0), (.int .i64 0)] 30 h fun t12 h => BTreeG_I_isoLoad.call #[a0, a1, (.bool true)] h fun t24 h => ifV a2 (nilck t24 fun t27 => fld 2 t27 fun t28 => load1 t28 h fun t29 => lenV t29 fun t30 => arith (· - ·) t30 (.int .i64 1) fun t31 => BTreeG_I_delete.j1 a0 a2 a4 a5 t9 t12 t24 t31 (.bool true) h Q) (loadN 2 t9 h fun t35 => BTreeG_I_find.call #[a0, t24, t35, a4, a5] h fun t38 h => extr 0 t38 fun t39 => extr 1 t38 fun t40 => BTreeG_I_delete.j1 a0 a2 a4 a5 t9 t12 t24 t39 t40 h Q)
theorem BTreeG_I_delete.body (a0 a1 a2 a3 a4 a5 : Value) (h : Heap) (Q : Value → Heap → Prop) (H : BTreeG_I_delete.sh a0 a1 a2 a3 a4 a5 h Q) : BTreeG_I_delete.call #[a0, a1, a2, a3, a4, a5] h Q := by
  refine callsH_of (args := [a0, a1, a2, a3, a4, a5]) Try.func85 rfl rfl ?_; unfold BTreeG_I_delete.sh at H; refine WPc_seq' ?_; refine W_region (by kernel_rfl) ?_; refine vl_n ?_; refine H_box H fun t9 h H => ?_; refine vl_n ?_; refine H_alloc TV_30 H fun t12 h H => ?_; refine vl_n ?_; refine H_of_R (R_assign (v := (.bool false)) rfl ?_)
  refine vl_e ?_; refine WPc_seq' ?_; refine W_region (by kernel_rfl) ?_; refine vl_n ?_; refine H_of_R (R_move (v := a0) rfl ?_)
  refine vl_n ?_; refine H_of_R (R_move (v := a1) rfl ?_)
  refine vl_n ?_; refine H_call HB_77 H fun t24 h H => ?_; refine vl_n ?_; refine H_of_R (R_assign (v := t24) rfl ?_)
  refine vl_e ?_; refine WPc_seq' ?_; refine W_region (by kernel_rfl) ?_; refine vl_n ?_; refine H_of_R (R_assign (v := (.int .i64 0)) rfl ?_)
  refine vl_e ?_; refine WPc_seq' ?_; refine W_region (by kernel_rfl) ?_; refine vl_n ?_; refine H_of_R (R_assign (v := (.bool false)) rfl ?_)
  refine vl_e ?_; refine WPc_seq (fun e h => BTreeG_I_delete.j1 (e 0) (e 2) (e 4) (e 5) (e 9) (e 12) (e 14) (e 15) (e 16) h Q) ?_ (fun e h H => ?_)
  rotate_left
  · unfold BTreeG_I_delete.j1 at H
    refine WPc_seq (fun e h => BTreeG_I_delete.j2 (e 0) (e 2) (e 4) (e 5) (e 9) (e 12) (e 14) (e 15) (e 16) h Q) ?_ (fun e h H => ?_)
    rotate_left
    · unfold BTreeG_I_delete.j2 at H
      refine WPc_seq' ?_; refine W_region (by kernel_rfl) ?_; refine vl_n ?_; refine H_alloc TV_30 H fun t18 h H => ?_; refine vl_e ?_; refine WPc_seq' ?_; refine W_region (by kernel_rfl) ?_; refine vl_n ?_; refine H_of_R (R_assign (v := (.bool false)) rfl ?_)
      refine vl_e ?_; refine WPc_seq (fun e h => BTreeG_I_delete.j3 (e 0) (e 12) (e 14) (e 15) (e 18) (e 19) h Q) ?_ (fun e h H => ?_)
      rotate_left
      · unfold BTreeG_I_delete.j3 at H
        refine WPc_seq (fun e h => BTreeG_I_delete.j4 (e 0) (e 12) (e 14) (e 15) (e 18) h Q) ?_ (fun e h H => ?_)
        rotate_left
        · unfold BTreeG_I_delete.j4 at H
          refine WPc_seq' ?_; refine W_region (by kernel_rfl) ?_; refine vl_n ?_; refine H_of_R (R_move (v := (e 14)) rfl ?_)
          refine vl_n ?_; refine H_of_R (R_nil H fun t183 H => ?_)
          refine vl_n ?_; refine H_of_R (R_fld TF_129_1 H fun t184 H => ?_)
          refine vl_n ?_; refine H_of_R (R_load1 T1_3 H fun _ t185 _ _ H => ?_)
          refine vl_n ?_; refine H_of_R (R_sub H fun t186 H => ?_)
          refine vl_n ?_; refine H_of_R (R_nil H fun t187 H => ?_)
          refine vl_n ?_; refine H_of_R (R_fld TF_129_1 H fun t188 H => ?_)
          refine vl_n ?_; refine H_store1 TS_3 H fun h H => ?_; refine vl_e ?_; refine WPc_seq (fun e h => BTreeG_I_delete.j5 (e 12) (e 18) h Q) ?_ (fun e h H => ?_)
          rotate_left
          · unfold BTreeG_I_delete.j5 at H
            refine WPc_seq' ?_; refine W_region (by kernel_rfl) ?_; refine vl_n ?_; refine H_of_R (R_loadN TN_30 H fun _ t211 _ _ H _ _ => ?_)
            refine vl_n ?_; refine H_storeN TS_30 H fun h H => ?_; refine vl_n ?_; refine H_of_R (R_assign (v := (.bool true)) rfl ?_)
            refine vl_e ?_; refine WPc_ret ?_; refine resH_of rfl ?_; refine resL_N TN_30 ?_; refine loadN_imp H fun r12 H => ?_; refine resL_t ?_; exact H
          refine WPc_seq' ?_; refine W_drawn [0, 1, 3, 7, 15, 31, 0, 127, 255, 511, 1023, 2047, 4095, 0, 8192, 24576, 57344, 131071] (.take 0 (.take 1 (.take 2 (.take 3 (.take 4 (.take 5 (.take 6 (.take 7 (.take 8 (.take 9 (.take 10 (.take 11 (.take 12 (.take 13 (.take 14 (.take 15 (.take 16 (.take 17 .done)))))))))))))))))) mixed (by kernel_rfl) ?_; refine tkP rfl ?_; refine R_move (v := (e 14)) rfl ⟨fun _ => trivial, ?_⟩
          refine tkP rfl ?_; refine R_nil H fun t190 H => ⟨fun _ => trivial, ?_⟩
          refine tkP rfl ?_; refine R_fld TF_129_3 H fun t191 H => ⟨fun _ => trivial, ?_⟩
          refine tkL rfl ?_; refine R_load1 T1_127 H fun at192 t192 hat192 _ H => ?_; refine tkP rfl ?_; refine R_nil H fun t193 H => ⟨fun _ => trivial, ?_⟩
          refine tkL rfl ?_; refine R_load1 T1_130 H fun at194 t194 hat194 _ H => ?_; refine tkP rfl ?_; refine R_move (v := (e 15)) rfl ⟨fun _ => trivial, ?_⟩
          refine tkP rfl ?_; refine R_idx TE_130 H fun t196 H => ⟨fun _ => trivial, ?_⟩
          refine tkL rfl ?_; refine R_load1 T1_115 H fun at197 t197 hat197 _ H => ?_; refine tkP rfl ?_; refine R_nil H fun t198 H => ⟨fun _ => trivial, ?_⟩
          refine tkP rfl ?_; refine R_fld TF_129_2 H fun t199 H => ⟨fun _ => trivial, ?_⟩
          refine tkL rfl ?_; refine R_load1 T1_25 H fun at200 t200 hat200 _ H => ?_; refine tkP rfl ?_; refine R_len Try.underlying25 H fun t201 H => ⟨fun _ => trivial, ?_⟩
          refine tkP rfl ?_; refine R_move (v := (e 0)) rfl ⟨fun _ => trivial, ?_⟩
          refine tkP rfl ?_; refine R_nil H fun t203 H => ⟨fun _ => trivial, ?_⟩
          refine tkP rfl ?_; refine R_fld TF_117_9 H fun t204 H => ⟨fun _ => trivial, ?_⟩
          refine tkL rfl ?_; refine R_load1 T1_3 H fun at205 t205 hat205 _ H => ?_; refine tkP rfl ?_; refine R_lss H fun t206 H => ⟨fun _ => trivial, ?_⟩
          refine vp_done ?_; obtain ⟨b, hc, H1, H2⟩ := H; refine WPc_cond hc (fun hh => ?_) (fun hh => ?_)
          · have H := H1 hh; clear H1 H2
            refine W_region (by kernel_rfl) ?_; refine vl_n ?_; refine H_of_R (R_move (v := (e 0)) rfl ?_)
            refine vl_n ?_; refine H_of_R (R_move (v := (e 14)) rfl ?_)
            refine vl_n ?_; refine H_of_R (R_move (v := (e 15)) rfl ?_)
            refine vl_n ?_; refine H_call HB_92 H fun t210 h H => ?_; refine vl_e ?_; exact H
          · have H := H2 hh; clear H1 H2
            refine WPc_skip ?_; exact H
        refine WPc_seq' ?_; refine W_region (by kernel_rfl) ?_; refine vl_n ?_; refine H_of_R (R_move (v := (e 19)) rfl ?_)
        refine vl_n ?_; refine H_of_R (R_not H fun t177 H => ?_)
        refine vl_e ?_; obtain ⟨b, hc, H1, H2⟩ := H; refine WPc_cond hc (fun hh => ?_) (fun hh => ?_)
        · have H := H1 hh; clear H1 H2
          refine WPc_seq' ?_; refine W_region (by kernel_rfl) ?_; refine vl_n ?_; refine H_of_R (R_move (v := (e 0)) rfl ?_)
          refine vl_n ?_; refine H_of_R (R_nil H fun t179 H => ?_)
          refine vl_n ?_; refine H_of_R (R_fld TF_117_7 H fun t180 H => ?_)
          refine vl_n ?_; refine H_of_R (R_loadN TN_30 H fun _ t181 _ _ H _ _ => ?_)
          refine vl_n ?_; refine H_storeN TS_30 H fun h H => ?_; refine vl_n ?_; refine H_of_R (R_assign (v := (.bool false)) rfl ?_)
          refine vl_e ?_; refine WPc_ret ?_; refine resH_of rfl ?_; refine resL_N TN_30 ?_; refine loadN_imp H fun r12 H => ?_; refine resL_t ?_; exact H
        · have H := H2 hh; clear H1 H2
          refine WPc_skip ?_; exact H
      refine WPc_seq' ?_; refine W_region (by kernel_rfl) ?_; refine vl_n ?_; refine H_of_R (R_move (v := (e 16)) rfl ?_)
      refine vl_e ?_; obtain ⟨b, hc, H1, H2⟩ := H; refine WPc_cond hc (fun hh => ?_) (fun hh => ?_)
      · have H := H1 hh; clear H1 H2
        refine WPc_seq' ?_; refine W_region (by kernel_rfl) ?_; refine vl_n ?_; refine H_of_R (R_move (v := (e 2)) rfl ?_)
        refine vl_e ?_; obtain ⟨b_2, hc_2, H1, H2⟩ := H; refine WPc_cond hc_2 (fun hh => ?_) (fun hh => ?_)
        · have H := H1 hh; clear H1 H2
          refine WPc_seq' ?_; refine W_region (by kernel_rfl) ?_; refine vl_n ?_; refine H_of_R (R_move (v := (e 15)) rfl ?_)
          refine vl_n ?_; refine H_of_R (R_add H fun t109 H => ?_)
          refine vl_n ?_; refine H_of_R (R_assign (v := t109) rfl ?_)
          refine vl_e ?_; refine W_drawn [0, 0, 2, 6, 14, 30, 62, 0, 254, 0, 512, 1536, 3584, 8191, 16383, 32767, 32767, 65535, 262143] (.take 0 (.take 1 (.take 2 (.take 3 (.take 4 (.take 5 (.take 6 (.take 7 (.take 8 (.take 9 (.take 10 (.take 11 (.take 12 (.alt 13 (.take 14 (.take 15 (.take 16 (.alt 17 (.take 18 .done) .none)))) .none)))))))))))))) mixed (by kernel_rfl) ?_; refine tkP rfl ?_; refine R_move (v := (e 0)) rfl ⟨fun _ => trivial, ?_⟩
          refine tkP rfl ?_; refine R_move (v := (e 14)) rfl ⟨fun _ => trivial, ?_⟩
          refine tkP rfl ?_; refine R_nil H fun t113 H => ⟨fun _ => trivial, ?_⟩
          refine tkP rfl ?_; refine R_fld TF_129_3 H fun t114 H => ⟨fun _ => trivial, ?_⟩
          refine tkL rfl ?_; refine R_load1 T1_127 H fun at115 t115 hat115 _ H => ?_; refine tkP rfl ?_; refine R_nil H fun t116 H => ⟨fun _ => trivial, ?_⟩
          refine tkL rfl ?_; refine R_load1 T1_130 H fun at117 t117 hat117 _ H => ?_; refine tkP rfl ?_; refine R_move (v := t109) rfl ⟨fun _ => trivial, ?_⟩
          refine tkP rfl ?_; refine R_idx TE_130 H fun t119 H => ⟨fun _ => trivial, ?_⟩
          refine tkP rfl ?_; refine R_move (v := (e 0)) rfl ⟨fun _ => trivial, ?_⟩
          refine tkP rfl ?_; refine R_nil H fun t121 H => ⟨fun _ => trivial, ?_⟩
          refine tkP rfl ?_; refine R_fld TF_117_7 H fun t122 H => ⟨fun _ => trivial, ?_⟩
          refine tkL rfl ?_; refine R_loadN TN_30 H fun at123 xt123 hat123 _ H St123 hSt123 => ?_; refine alt_n rfl ?_ vp_none
          refine H_call HB_85 H fun t124 h H => ⟨(hskip rfl (hskip rfl (hskip rfl hnil))), ?_⟩
          refine tkP rfl ?_; refine R_move (v := t124) rfl ⟨fun _ => trivial, ?_⟩
          refine tkP rfl ?_; refine R_ext H fun t125 H => ⟨fun _ => trivial, ?_⟩
          refine tkP rfl ?_; refine R_ext H fun t126 H => ⟨fun _ => trivial, ?_⟩
          refine alt_n rfl ?_ vp_none
          refine H_storeN TS_30 H fun h H => ⟨hnil, ?_⟩
          refine tkP rfl ?_; refine R_assign (v := t126) rfl ⟨fun _ => trivial, ?_⟩
          refine vp_done ?_; exact H
        · have H := H2 hh; clear H1 H2
          refine WPc_seq' ?_; refine W_region (by kernel_rfl) ?_; refine vl_n ?_; refine H_of_R (R_move (v := (e 14)) rfl ?_)
          refine vl_n ?_; refine H_of_R (R_nil H fun t128 H => ?_)
          refine vl_n ?_; refine H_of_R (R_fld TF_129_2 H fun t129 H => ?_)
          refine vl_n ?_; refine H_of_R (R_load1 T1_25 H fun _ t130 _ _ H => ?_)
          refine vl_n ?_; refine H_of_R (R_move (v := (e 15)) rfl ?_)
          refine vl_n ?_; refine H_of_R (R_idx TE_25 H fun t132 H => ?_)
          refine vl_n ?_; refine H_of_R (R_loadN TN_30 H fun _ t133 _ _ H _ _ => ?_)
          refine vl_n ?_; refine H_storeN TS_30 H fun h H => ?_; refine vl_e ?_; refine WPc_seq' ?_; refine W_drawn [0, 0, 2, 6, 14, 30, 62, 0, 254, 0, 512, 1536, 3584, 8191, 16383, 32767, 32767, 0, 196607, 524287] (.take 0 (.take 1 (.take 2 (.take 3 (.take 4 (.take 5 (.take 6 (.take 7 (.take 8 (.take 9 (.take 10 (.take 11 (.take 12 (.alt 13 (.take 14 (.take 15 (.take 16 (.alt 17 (.alt 18 (.take 19 .done) .none) .none)))) (.alt 17 (.alt 13 (.take 14 (.take 15 (.take 16 (.alt 18 (.take 19 .done) .none)))) .none) .none))))))))))))))) mixed (by kernel_rfl) ?_; refine tkP rfl ?_; refine R_move (v := (e 0)) rfl ⟨fun _ => trivial, ?_⟩
          refine tkP rfl ?_; refine R_move (v := (e 14)) rfl ⟨fun _ => trivial, ?_⟩
          refine tkP rfl ?_; refine R_nil H fun t137 H => ⟨fun _ => trivial, ?_⟩
          refine tkP rfl ?_; refine R_fld TF_129_3 H fun t138 H => ⟨fun _ => trivial, ?_⟩
          refine tkL rfl ?_; refine R_load1 T1_127 H fun at139 t139 hat139 _ H => ?_; refine tkP rfl ?_; refine R_nil H fun t140 H => ⟨fun _ => trivial, ?_⟩
          refine tkL rfl ?_; refine R_load1 T1_130 H fun at141 t141 hat141 _ H => ?_; refine tkP rfl ?_; refine R_move (v := (e 15)) rfl ⟨fun _ => trivial, ?_⟩
          refine tkP rfl ?_; refine R_idx TE_130 H fun t143 H => ⟨fun _ => trivial, ?_⟩
          refine tkP rfl ?_; refine R_move (v := (e 0)) rfl ⟨fun _ => trivial, ?_⟩
          refine tkP rfl ?_; refine R_nil H fun t145 H => ⟨fun _ => trivial, ?_⟩
          refine tkP rfl ?_; refine R_fld TF_117_7 H fun t146 H => ⟨fun _ => trivial, ?_⟩
          refine tkL rfl ?_; refine R_loadN TN_30 H fun at147 xt147 hat147 _ H St147 hSt147 => ?_; obtain ⟨HA0, HA1⟩ := H; refine alt_n rfl ?_ ?_
          · have H := HA0; clear HA0 HA1
            refine H_call HB_85 H fun t148 h H => ⟨(hskip rfl (hskip rfl (hskip rfl hnil))), ?_⟩
            refine tkP rfl ?_; refine R_move (v := t148) rfl ⟨fun _ => trivial, ?_⟩
            refine tkP rfl ?_; refine R_ext H fun t149 H => ⟨fun _ => trivial, ?_⟩
            refine tkP rfl ?_; refine R_ext H fun t150 H => ⟨fun _ => trivial, ?_⟩
            refine alt_n rfl ?_ vp_none
            refine H_alloc TV_30 H fun t20 h H => ⟨hnil, ?_⟩
            refine alt_n rfl ?_ vp_none
            refine H_storeN TS_30 H fun h H => ⟨hnil, ?_⟩
            refine tkP rfl ?_; refine R_assign (v := t150) rfl ⟨fun _ => trivial, ?_⟩
            refine vp_done ?_; refine WPc_seq' ?_; refine W_region (by kernel_rfl) ?_; refine vl_n ?_; refine H_of_R (R_assign (v := (.bool true)) rfl ?_)
            refine vl_e ?_; refine W_drawn [0, 1, 3, 7, 0, 0, 63, 127] (.take 0 (.take 1 (.take 2 (.take 3 (.take 4 (.take 5 (.take 6 (.alt 7 .done .none)))))))) mixed (by kernel_rfl) ?_; refine tkP rfl ?_; refine R_move (v := (e 14)) rfl ⟨fun _ => trivial, ?_⟩
            refine tkP rfl ?_; refine R_nil H fun t152 H => ⟨fun _ => trivial, ?_⟩
            refine tkP rfl ?_; refine R_fld TF_129_2 H fun t153 H => ⟨fun _ => trivial, ?_⟩
            refine tkL rfl ?_; refine R_load1 T1_25 H fun at154 t154 hat154 _ H => ?_; refine tkP rfl ?_; refine R_move (v := (e 15)) rfl ⟨fun _ => trivial, ?_⟩
            refine tkL rfl ?_; refine R_loadN TN_30 H fun at156 xt156 hat156 _ H St156 hSt156 => ?_; refine tkP rfl ?_; refine R_idx TE_25 H fun t157 H => ⟨fun _ => trivial, ?_⟩
            refine alt_n rfl ?_ vp_none
            refine H_storeN TS_30 H fun h H => ⟨(hskip rfl (hskip rfl hnil)), ?_⟩
            refine vp_done ?_; exact H
          refine alt_n rfl ?_ vp_none
          have H := HA1; clear HA0 HA1
          refine H_alloc TV_30 H fun t20_2 h ⟨S, S_2, S_3, H⟩ => ⟨(hcons rfl (hSt147 _ (still_N S_3 hat147 rfl)) (hcons rfl (still_1 S_2 hat141) (hcons rfl (still_1 S hat139) hnil))), ?_⟩
          refine alt_n rfl ?_ vp_none
          refine H_call HB_85 H fun t148_2 h H => ⟨(hskip rfl (hskip rfl (hskip rfl hnil))), ?_⟩
          refine tkP rfl ?_; refine R_move (v := t148_2) rfl ⟨fun _ => trivial, ?_⟩
          refine tkP rfl ?_; refine R_ext H fun t149_2 H => ⟨fun _ => trivial, ?_⟩
          refine tkP rfl ?_; refine R_ext H fun t150_2 H => ⟨fun _ => trivial, ?_⟩
          refine alt_n rfl ?_ vp_none
          refine H_storeN TS_30 H fun h H => ⟨hnil, ?_⟩
          refine tkP rfl ?_; refine R_assign (v := t150_2) rfl ⟨fun _ => trivial, ?_⟩
          refine vp_done ?_; refine WPc_seq' ?_; refine W_region (by kernel_rfl) ?_; refine vl_n ?_; refine H_of_R (R_assign (v := (.bool true)) rfl ?_)
          refine vl_e ?_; refine W_drawn [0, 1, 3, 7, 0, 0, 63, 127] (.take 0 (.take 1 (.take 2 (.take 3 (.take 4 (.take 5 (.take 6 (.alt 7 .done .none)))))))) mixed (by kernel_rfl) ?_; refine tkP rfl ?_; refine R_move (v := (e 14)) rfl ⟨fun _ => trivial, ?_⟩
          refine tkP rfl ?_; refine R_nil H fun t152_2 H => ⟨fun _ => trivial, ?_⟩
          refine tkP rfl ?_; refine R_fld TF_129_2 H fun t153_2 H => ⟨fun _ => trivial, ?_⟩
          refine tkL rfl ?_; refine R_load1 T1_25 H fun at154_2 t154_2 hat154_2 _ H => ?_; refine tkP rfl ?_; refine R_move (v := (e 15)) rfl ⟨fun _ => trivial, ?_⟩
          refine tkL rfl ?_; refine R_loadN TN_30 H fun at156_2 xt156_2 hat156_2 _ H St156_2 hSt156_2 => ?_; refine tkP rfl ?_; refine R_idx TE_25 H fun t157_2 H => ⟨fun _ => trivial, ?_⟩
          refine alt_n rfl ?_ vp_none
          refine H_storeN TS_30 H fun h H => ⟨(hskip rfl (hskip rfl hnil)), ?_⟩
          refine vp_done ?_; exact H
      · have H := H2 hh; clear H1 H2
        refine W_drawn [0, 0, 2, 6, 14, 30, 62, 0, 254, 0, 0, 0, 0, 4096, 16383, 32767, 65535, 65535, 131071, 524287] (.take 0 (.take 1 (.take 2 (.take 3 (.take 4 (.take 5 (.take 6 (.take 7 (.take 8 (.take 9 (.take 10 (.take 11 (.take 12 (.take 13 (.alt 14 (.take 15 (.take 16 (.take 17 (.alt 18 (.take 19 .done) .none)))) .none))))))))))))))) mixed (by kernel_rfl) ?_; refine tkP rfl ?_; refine R_move (v := (e 0)) rfl ⟨fun _ => trivial, ?_⟩
        refine tkP rfl ?_; refine R_move (v := (e 14)) rfl ⟨fun _ => trivial, ?_⟩
        refine tkP rfl ?_; refine R_nil H fun t161 H => ⟨fun _ => trivial, ?_⟩
        refine tkP rfl ?_; refine R_fld TF_129_3 H fun t162 H => ⟨fun _ => trivial, ?_⟩
        refine tkL rfl ?_; refine R_load1 T1_127 H fun at163 t163 hat163 _ H => ?_; refine tkP rfl ?_; refine R_nil H fun t164 H => ⟨fun _ => trivial, ?_⟩
        refine tkL rfl ?_; refine R_load1 T1_130 H fun at165 t165 hat165 _ H => ?_; refine tkP rfl ?_; refine R_move (v := (e 15)) rfl ⟨fun _ => trivial, ?_⟩
        refine tkP rfl ?_; refine R_idx TE_130 H fun t167 H => ⟨fun _ => trivial, ?_⟩
        refine tkP rfl ?_; refine R_move (v := (e 2)) rfl ⟨fun _ => trivial, ?_⟩
        refine tkL rfl ?_; refine R_loadN TN_30 H fun at169 xt169 hat169 _ H St169 hSt169 => ?_; refine tkP rfl ?_; refine R_move (v := (e 4)) rfl ⟨fun _ => trivial, ?_⟩
        refine tkP rfl ?_; refine R_move (v := (e 5)) rfl ⟨fun _ => trivial, ?_⟩
        refine tkP rfl ?_; refine R_add H fun t172 H => ⟨fun _ => trivial, ?_⟩
        refine alt_n rfl ?_ vp_none
        refine H_call HB_85 H fun t173 h H => ⟨(hskip rfl (hskip rfl (hskip rfl hnil))), ?_⟩
        refine tkP rfl ?_; refine R_move (v := t173) rfl ⟨fun _ => trivial, ?_⟩
        refine tkP rfl ?_; refine R_ext H fun t174 H => ⟨fun _ => trivial, ?_⟩
        refine tkP rfl ?_; refine R_ext H fun t175 H => ⟨fun _ => trivial, ?_⟩
        refine alt_n rfl ?_ vp_none
        refine H_storeN TS_30 H fun h H => ⟨hnil, ?_⟩
        refine tkP rfl ?_; refine R_assign (v := t175) rfl ⟨fun _ => trivial, ?_⟩
        refine vp_done ?_; exact H
    refine WPc_seq' ?_; refine W_region (by kernel_rfl) ?_; refine vl_n ?_; refine H_of_R (R_move (v := (e 14)) rfl ?_)
    refine vl_n ?_; refine H_call HB_78 H fun t42 h H => ?_; refine vl_e ?_; obtain ⟨b, hc, H1, H2⟩ := H; refine WPc_cond hc (fun hh => ?_) (fun hh => ?_)
    · have H := H1 hh; clear H1 H2
      refine WPc_seq (fun e h => BTreeG_I_delete.j6 (e 0) (e 12) h Q) ?_ (fun e h H => ?_)
      rotate_left
      · unfold BTreeG_I_delete.j6 at H
        refine WPc_seq' ?_; refine W_region (by kernel_rfl) ?_; refine vl_n ?_; refine H_of_R (R_move (v := (e 0)) rfl ?_)
        refine vl_n ?_; refine H_of_R (R_nil H fun t103 H => ?_)
        refine vl_n ?_; refine H_of_R (R_fld TF_117_7 H fun t104 H => ?_)
        refine vl_n ?_; refine H_of_R (R_loadN TN_30 H fun _ t105 _ _ H _ _ => ?_)
        refine vl_n ?_; refine H_storeN TS_30 H fun h H => ?_; refine vl_n ?_; refine H_of_R (R_assign (v := (.bool false)) rfl ?_)
        refine vl_e ?_; refine WPc_ret ?_; refine resH_of rfl ?_; refine resL_N TN_30 ?_; refine loadN_imp H fun r12 H => ?_; refine resL_t ?_; exact H
      refine WPc_seq' ?_; refine W_region (by kernel_rfl) ?_; refine vl_n ?_; refine H_of_R (R_move (v := (e 16)) rfl ?_)
      refine vl_e ?_; obtain ⟨b_2, hc_2, H1, H2⟩ := H; refine WPc_cond hc_2 (fun hh => ?_) (fun hh => ?_)
      · have H := H1 hh; clear H1 H2
        refine WPc_seq' ?_; refine W_region (by kernel_rfl) ?_; refine vl_n ?_; refine H_of_R (R_move (v := (e 14)) rfl ?_)
        refine vl_n ?_; refine H_of_R (R_nil H fun t45 H => ?_)
        refine vl_n ?_; refine H_of_R (R_fld TF_129_2 H fun t46 H => ?_)
        refine vl_n ?_; refine H_of_R (R_load1 T1_25 H fun _ t47 _ _ H => ?_)
        refine vl_n ?_; refine H_of_R (R_move (v := (e 15)) rfl ?_)
        refine vl_n ?_; refine H_of_R (R_idx TE_25 H fun t49 H => ?_)
        refine vl_n ?_; refine H_of_R (R_loadN TN_30 H fun _ t50 _ _ H _ _ => ?_)
        refine vl_n ?_; refine H_alloc TV_30 H fun t17 h H => ?_; refine vl_n ?_; refine H_storeN TS_30 H fun h H => ?_; refine vl_e ?_; refine WPc_seq' ?_; refine W_drawn [0, 1, 3, 7, 0, 31, 0, 64, 192, 448, 0, 1024, 4032, 8191] (.take 0 (.take 1 (.take 2 (.take 3 (.take 4 (.take 5 (.take 6 (.take 7 (.take 8 (.take 9 (.take 10 (.take 11 (.take 12 (.alt 13 .done .none)))))))))))))) mixed (by kernel_rfl) ?_; refine tkP rfl ?_; refine R_move (v := (e 14)) rfl ⟨fun _ => trivial, ?_⟩
        refine tkP rfl ?_; refine R_nil H fun t52 H => ⟨fun _ => trivial, ?_⟩
        refine tkP rfl ?_; refine R_fld TF_129_2 H fun t53 H => ⟨fun _ => trivial, ?_⟩
        refine tkL rfl ?_; refine R_load1 T1_25 H fun at54 t54 hat54 _ H => ?_; refine tkP rfl ?_; refine R_move (v := (e 15)) rfl ⟨fun _ => trivial, ?_⟩
        refine tkP rfl ?_; refine R_slice TE_25 (by decide) H fun t56 H => ⟨fun _ => trivial, ?_⟩
        refine tkP rfl ?_; refine R_move (v := (e 14)) rfl ⟨fun _ => trivial, ?_⟩
        refine tkP rfl ?_; refine R_nil H fun t58 H => ⟨fun _ => trivial, ?_⟩
        refine tkP rfl ?_; refine R_fld TF_129_2 H fun t59 H => ⟨fun _ => trivial, ?_⟩
        refine tkL rfl ?_; refine R_load1 T1_25 H fun at60 t60 hat60 _ H => ?_; refine tkP rfl ?_; refine R_move (v := (e 15)) rfl ⟨fun _ => trivial, ?_⟩
        refine tkP rfl ?_; refine R_add H fun t62 H => ⟨fun _ => trivial, ?_⟩
        refine tkP rfl ?_; refine R_slice TE_25 (by decide) H fun t63 H => ⟨fun _ => trivial, ?_⟩
        refine alt_n rfl ?_ vp_none
        refine H_cpy TE_25 H fun t64 h H => ⟨(hskip rfl (hskip rfl hnil)), ?_⟩
        refine vp_done ?_; refine WPc_seq' ?_; refine W_drawn [0, 1, 3, 7, 0, 16, 48, 112, 240, 496, 0, 1024, 3072, 7168, 16383, 32767] (.take 0 (.take 1 (.take 2 (.take 3 (.take 4 (.take 5 (.take 6 (.take 7 (.take 8 (.take 9 (.take 10 (.take 11 (.take 12 (.take 13 (.take 14 (.alt 15 .done .none)))))))))))))))) mixed (by kernel_rfl) ?_; refine tkP rfl ?_; refine R_move (v := (e 14)) rfl ⟨fun _ => trivial, ?_⟩
        refine tkP rfl ?_; refine R_nil H fun t66 H => ⟨fun _ => trivial, ?_⟩
        refine tkP rfl ?_; refine R_fld TF_129_2 H fun t67 H => ⟨fun _ => trivial, ?_⟩
        refine tkL rfl ?_; refine R_load1 T1_25 H fun at68 t68 hat68 _ H => ?_; refine tkP rfl ?_; refine R_move (v := (e 14)) rfl ⟨fun _ => trivial, ?_⟩
        refine tkP rfl ?_; refine R_nil H fun t70 H => ⟨fun _ => trivial, ?_⟩
        refine tkP rfl ?_; refine R_fld TF_129_2 H fun t71 H => ⟨fun _ => trivial, ?_⟩
        refine tkL rfl ?_; refine R_load1 T1_25 H fun at72 t72 hat72 _ H => ?_; refine tkP rfl ?_; refine R_len Try.underlying25 H fun t73 H => ⟨fun _ => trivial, ?_⟩
        refine tkP rfl ?_; refine R_sub H fun t74 H => ⟨fun _ => trivial, ?_⟩
        refine tkP rfl ?_; refine R_move (v := (e 0)) rfl ⟨fun _ => trivial, ?_⟩
        refine tkP rfl ?_; refine R_nil H fun t76 H => ⟨fun _ => trivial, ?_⟩
        refine tkP rfl ?_; refine R_fld TF_117_7 H fun t77 H => ⟨fun _ => trivial, ?_⟩
        refine tkL rfl ?_; refine R_loadN TN_30 H fun at78 xt78 hat78 _ H St78 hSt78 => ?_; refine tkP rfl ?_; refine R_idx TE_25 H fun t79 H => ⟨fun _ => trivial, ?_⟩
        refine alt_n rfl ?_ vp_none
        refine H_storeN TS_30 H fun h H => ⟨(hskip rfl (hskip rfl (hskip rfl hnil))), ?_⟩
        refine vp_done ?_; refine WPc_seq' ?_; refine W_drawn [0, 0, 2, 6, 14, 0, 32, 96, 224, 480, 992, 2046, 4095, 8191, 16383] (.take 0 (.take 1 (.take 2 (.take 3 (.take 4 (.take 5 (.take 6 (.take 7 (.take 8 (.take 9 (.take 10 (.take 11 (.take 12 (.take 13 (.alt 14 .done .none))))))))))))))) mixed (by kernel_rfl) ?_; refine tkP rfl ?_; refine R_move (v := (e 14)) rfl ⟨fun _ => trivial, ?_⟩
        refine tkP rfl ?_; refine R_move (v := (e 14)) rfl ⟨fun _ => trivial, ?_⟩
        refine tkP rfl ?_; refine R_nil H fun t82 H => ⟨fun _ => trivial, ?_⟩
        refine tkP rfl ?_; refine R_fld TF_129_2 H fun t83 H => ⟨fun _ => trivial, ?_⟩
        refine tkL rfl ?_; refine R_load1 T1_25 H fun at84 t84 hat84 _ H => ?_; refine tkP rfl ?_; refine R_move (v := (e 14)) rfl ⟨fun _ => trivial, ?_⟩
        refine tkP rfl ?_; refine R_nil H fun t86 H => ⟨fun _ => trivial, ?_⟩
        refine tkP rfl ?_; refine R_fld TF_129_2 H fun t87 H => ⟨fun _ => trivial, ?_⟩
        refine tkL rfl ?_; refine R_load1 T1_25 H fun at88 t88 hat88 _ H => ?_; refine tkP rfl ?_; refine R_len Try.underlying25 H fun t89 H => ⟨fun _ => trivial, ?_⟩
        refine tkP rfl ?_; refine R_sub H fun t90 H => ⟨fun _ => trivial, ?_⟩
        refine tkP rfl ?_; refine R_slice TE_25 (by decide) H fun t91 H => ⟨fun _ => trivial, ?_⟩
        refine tkP rfl ?_; refine R_nil H fun t92 H => ⟨fun _ => trivial, ?_⟩
        refine tkP rfl ?_; refine R_fld TF_129_2 H fun t93 H => ⟨fun _ => trivial, ?_⟩
        refine alt_n rfl ?_ vp_none
        refine H_store1 TS_25 H fun h H => ⟨(hskip rfl (hskip rfl hnil)), ?_⟩
        refine vp_done ?_; refine WPc_seq' ?_; refine W_region (by kernel_rfl) ?_; refine vl_n ?_; refine H_of_R (R_move (v := (e 14)) rfl ?_)
        refine vl_n ?_; refine H_of_R (R_nil H fun t95 H => ?_)
        refine vl_n ?_; refine H_of_R (R_fld TF_129_1 H fun t96 H => ?_)
        refine vl_n ?_; refine H_of_R (R_load1 T1_3 H fun _ t97 _ _ H => ?_)
        refine vl_n ?_; refine H_of_R (R_sub H fun t98 H => ?_)
        refine vl_n ?_; refine H_of_R (R_nil H fun t99 H => ?_)
        refine vl_n ?_; refine H_of_R (R_fld TF_129_1 H fun t100 H => ?_)
        refine vl_n ?_; refine H_store1 TS_3 H fun h H => ?_; refine vl_e ?_; refine WPc_seq' ?_; refine W_region (by kernel_rfl) ?_; refine vl_n ?_; refine H_of_R (R_loadN TN_30 H fun _ t101 _ _ H _ _ => ?_)
        refine vl_n ?_; refine H_storeN TS_30 H fun h H => ?_; refine vl_n ?_; refine H_of_R (R_assign (v := (.bool true)) rfl ?_)
        refine vl_e ?_; refine WPc_ret ?_; refine resH_of rfl ?_; refine resL_N TN_30 ?_; refine loadN_imp H fun r12 H => ?_; refine resL_t ?_; exact H
      · have H := H2 hh; clear H1 H2
        refine WPc_skip ?_; exact H
    · have H := H2 hh; clear H1 H2
      refine WPc_skip ?_; exact H
  refine WPc_seq' ?_; refine W_region (by kernel_rfl) ?_; refine vl_n ?_; refine H_of_R (R_move (v := a2) rfl ?_)
  refine vl_e ?_; obtain ⟨b, hc, H1, H2⟩ := H; refine WPc_cond hc (fun hh => ?_) (fun hh => ?_)
  · have H := H1 hh; clear H1 H2
    refine W_region (by kernel_rfl) ?_; refine vl_n ?_; refine H_of_R (R_move (v := t24) rfl ?_)
    refine vl_n ?_; refine H_of_R (R_nil H fun t27 H => ?_)
    refine vl_n ?_; refine H_of_R (R_fld TF_129_2 H fun t28 H => ?_)
    refine vl_n ?_; refine H_of_R (R_load1 T1_25 H fun _ t29 _ _ H => ?_)
    refine vl_n ?_; refine H_of_R (R_len Try.underlying25 H fun t30 H => ?_)
    refine vl_n ?_; refine H_of_R (R_sub H fun t31 H => ?_)
    refine vl_n ?_; refine H_of_R (R_assign (v := t31) rfl ?_)
    refine vl_n ?_; refine H_of_R (R_assign (v := (.bool true)) rfl ?_)
    refine vl_e ?_; exact H
  · have H := H2 hh; clear H1 H2
    refine W_region (by kernel_rfl) ?_; refine vl_n ?_; refine H_of_R (R_move (v := a0) rfl ?_)
    refine vl_n ?_; refine H_of_R (R_move (v := t24) rfl ?_)
    refine vl_n ?_; refine H_of_R (R_loadN TN_30 H fun _ t35 _ _ H _ _ => ?_)
    refine vl_n ?_; refine H_of_R (R_move (v := a4) rfl ?_)
    refine vl_n ?_; refine H_of_R (R_move (v := a5) rfl ?_)
    refine vl_n ?_; refine H_call HB_86 H fun t38 h H => ?_; refine vl_n ?_; refine H_of_R (R_move (v := t38) rfl ?_)
    refine vl_n ?_; refine H_of_R (R_ext H fun t39 H => ?_)
    refine vl_n ?_; refine H_of_R (R_ext H fun t40 H => ?_)
    refine vl_n ?_; refine H_of_R (R_assign (v := t39) rfl ?_)
    refine vl_n ?_; refine H_of_R (R_assign (v := t40) rfl ?_)
    refine vl_e ?_; exact H
end Go.Proofs.Ythpmeccnddchpaa
end
section
namespace Go.Proofs.Ythpmeccnddchpaa
open Go.Hp
set_option maxRecDepth 100000
set_option maxHeartbeats 8000000
/-! ### (*pub/tidwallbtree.BTreeG[impl.Item]).setHint -/
def BTreeG_I_setHint.j3 (s0 s6 : Value) (h : Heap) (Q : Value → Heap → Prop) : Prop := nilck s0 fun t126 => fld 3 t126 fun t127 => load1 t127 h fun t128 => arith (· + ·) t128 (.int .i64 1) fun t129 => nilck s0 fun t130 => fld 3 t130 fun t131 => store1 t131 t129 h fun h => nilck s0 fun t133 => fld 7 t133 fun t134 => loadN 2 t134 h fun t135 => storeN 2 s6 t135 h fun h => loadN 2 s6 h fun r6 => Q (.tuple #[r6, (.bool false)]) h
def BTreeG_I_setHint.j2 (s0 s6 s7 : Value) (h : Heap) (Q : Value → Heap → Prop) : Prop := ifV s7 (loadN 2 s6 h fun t124 => storeN 2 s6 t124 h fun h => loadN 2 s6 h fun r6 => Q (.tuple #[r6, (.bool true)]) h) (BTreeG_I_setHint.j3 s0 s6 h Q)
def BTreeG_I_setHint.j1 (s0 s2 s4 s6 : Value) (h : Heap) (Q : Value → Heap → Prop) : Prop := nilck s0 fun t50 => fld 2 t50 fun t51 => loadN 2 s4 h fun t52 => BTreeG_I_nodeSet.call #[s0, t51, t52, s2, (.int .i64 0)] h fun t54 h => extr 0 t54 fun t55 => extr 1 t54 fun t56 => extr 2 t54 fun t57 => storeN 2 s6 t55 h fun h => ifV t57 (nilck s0 fun t61 => fld 2 t61 fun t62 => BTreeG_I_isoLoad.call #[s0, t62, (.bool true)] h fun t63 h => BTreeG_I_nodeSplit.call #[s0, t63] h fun t67 h => extr 0 t67 fun t68 => extr 1 t67 fun t69 => alloc [(.int .i64 0), (.int .i64 0)] 30 h fun t11 h => storeN 2 t11 t69 h fun h => BTreeG_I_newNode.call #[s0, (.bool false)] h fun t72 h => nilck s0 fun t73 => fld 2 t73 fun t74 => store1 t74 t72 h fun h => nilck s0 fun t76 => fld 2 t76 fun t77 => load1 t77 h fun t78 => nilck t78 fun t79 => fld 3 t79 fun t80 => load1 t80 h fun t81 => nilck s0 fun t83 => fld 9 t83 fun t84 => load1 t84 h fun t85 => arith (· + ·) t85 (.int .i64 1) fun t86 => mks 115 1 8 [(.pointer none)] (.int .i64 0) t86 h fun t87 h => still1 t77 t78 h ∧ still1 t80 t81 h ∧ nilck t81 fun t88 => store1 t88 t87 h fun h => nilck s0 fun t90 => fld 2 t90 fun t91 => load1 t91 h fun t92 => nilck t92 fun t93 => fld 3 t93 fun t94 => load1 t94 h fun t95 => (mkSl (if 0 * 1 = 0 then [] else zeros [(.pointer none)] 0) 0 [] 115 h fun t96 h => still1 t91 t92 h ∧ still1 t94 t95 h ∧ mkSl (if 2 * 1 = 0 then [] else zeros [(.pointer none)] 2) 2 [(0 * 1, 1, t63), (1 * 1, 1, t68)] 115 h fun t99 h => still1 t91 t92 h ∧ still1 t94 t95 h ∧ app 115 1 8 [(.pointer none)] t96 t99 h fun t100 h => still1 t91 t92 h ∧ still1 t94 t95 h ∧ nilck t95 fun t101 => store1 t101 t100 h fun h => nilck s0 fun t103 => fld 2 t103 fun t104 => load1 t104 h fun t105 => loadN 2 t11 h fun t107 => (mkSl (if 0 * 2 = 0 then [] else zeros [(.int .i64 0), (.int .i64 0)] 0) 0 [] 30 h fun t106 h => still1 t104 t105 h ∧ stillN 2 t11 t107 h ∧ mkSl (if 1 * 2 = 0 then [] else zeros [(.int .i64 0), (.int .i64 0)] 1) 1 [(0 * 2, 2, t107)] 30 h fun t108 h => still1 t104 t105 h ∧ app 30 2 16 [(.int .i64 0), (.int .i64 0)] t106 t108 h fun t109 h => still1 t104 t105 h ∧ nilck t105 fun t110 => fld 2 t110 fun t111 => store1 t111 t109 h fun h => nilck s0 fun t113 => fld 2 t113 fun t114 => load1 t114 h fun t115 => node_I_updateCount.call #[t115] h fun t116 h => loadN 2 s4 h fun t118 => BTreeG_I_setHint.call #[s0, t118, s2] h fun t120 h => extr 0 t120 fun t121 => extr 1 t120 fun t122 => storeN 2 s6 t121 h fun h => loadN 2 s6 h fun r6 => Q (.tuple #[r6, t122]) h) ∧ (mkSl (if 1 * 2 = 0 then [] else zeros [(.int .i64 0), (.int .i64 0)] 1) 1 [(0 * 2, 2, t107)] 30 h fun t108_2 h => still1 t104 t105 h ∧ mkSl (if 0 * 2 = 0 then [] else zeros [(.int .i64 0), (.int .i64 0)] 0) 0 [] 30 h fun t106_2 h => still1 t104 t105 h ∧ app 30 2 16 [(.int .i64 0), (.int .i64 0)] t106_2 t108_2 h fun t109_2 h => still1 t104 t105 h ∧ nilck t105 fun t110_2 => fld 2 t110_2 fun t111_2 => store1 t111_2 t109_2 h fun h => nilck s0 fun t113_2 => fld 2 t113_2 fun t114_2 => load1 t114_2 h fun t115_2 => node_I_updateCount.call #[t115_2] h fun t116_2 h => loadN 2 s4 h fun t118_2 => BTreeG_I_setHint.call #[s0, t118_2, s2] h fun t120_2 h => extr 0 t120_2 fun t121_2 => extr 1 t120_2 fun t122_2 => storeN 2 s6 t121_2 h fun h => loadN 2 s6 h fun r6_2 => Q (.tuple #[r6_2, t122_2]) h)) ∧ (mkSl (if 2 * 1 = 0 then [] else zeros [(.pointer none)] 2) 2 [(0 * 1, 1, t63), (1 * 1, 1, t68)] 115 h fun t99_2 h => still1 t91 t92 h ∧ still1 t94 t95 h ∧ mkSl (if 0 * 1 = 0 then [] else zeros [(.pointer none)] 0) 0 [] 115 h fun t96_2 h => still1 t91 t92 h ∧ still1 t94 t95 h ∧ app 115 1 8 [(.pointer none)] t96_2 t99_2 h fun t100_2 h => still1 t91 t92 h ∧ still1 t94 t95 h ∧ nilck t95 fun t101_2 => store1 t101_2 t100_2 h fun h => nilck s0 fun t103_2 => fld 2 t103_2 fun t104_2 => load1 t104_2 h fun t105_2 => loadN 2 t11 h fun t107_2 => (mkSl (if 0 * 2 = 0 then [] else zeros [(.int .i64 0), (.int .i64 0)] 0) 0 [] 30 h fun t106_3 h => still1 t104_2 t105_2 h ∧ stillN 2 t11 t107_2 h ∧ mkSl (if 1 * 2 = 0 then [] else zeros [(.int .i64 0), (.int .i64 0)] 1) 1 [(0 * 2, 2, t107_2)] 30 h fun t108_3 h => still1 t104_2 t105_2 h ∧ app 30 2 16 [(.int .i64 0), (.int .i64 0)] t106_3 t108_3 h fun t109_3 h => still1 t104_2 t105_2 h ∧ nilck t105_2 fun t110_3 => fld 2 t110_3 fun t111_3 => store1 t111_3 t109_3 h fun h => nilck s0 fun t113_3 => fld 2 t113_3 fun t114_3 => load1 t114_3 h fun t115_3 => node_I_updateCount.call #[t115_3] h fun t116_3 h => loadN 2 s4 h fun t118_3 => BTreeG_I_setHint.call #[s0, t118_3, s2] h fun t120_3 h => extr 0 t120_3 fun t121_3 => extr 1 t120_3 fun t122_3 => storeN 2 s6 t121_3 h fun h => loadN 2 s6 h fun r6_3 => Q (.tuple #[r6_3, t122_3]) h) ∧ (mkSl (if 1 * 2 = 0 then [] else zeros [(.int .i64 0), (.int .i64 0)] 1) 1 [(0 * 2, 2, t107_2)] 30 h fun t108_4 h => still1 t104_2 t105_2 h ∧ mkSl (if 0 * 2 = 0 then [] else zeros [(.int .i64 0), (.int .i64 0)] 0) 0 [] 30 h fun t106_4 h => still1 t104_2 t105_2 h ∧ app 30 2 16 [(.int .i64 0), (.int .i64 0)] t106_4 t108_4 h fun t109_4 h => still1 t104_2 t105_2 h ∧ nilck t105_2 fun t110_4 => fld 2 t110_4 fun t111_4 => store1 t111_4 t109_4 h fun h => nilck s0 fun t113_4 => fld 2 t113_4 fun t114_4 => load1 t114_4 h fun t115_4 => node_I_updateCount.call #[t115_4] h fun t116_4 h => loadN 2 s4 h fun t118_4 => BTreeG_I_setHint.call #[s0, t118_4, s2] h fun t120_4 h => extr 0 t120_4 fun t121_4 => extr 1 t120_4 fun t122_4 => storeN 2 s6 t121_4 h fun h => loadN 2 s6 h fun r6_4 => Q (.tuple #[r6_4, t122_4]) h))) (BTreeG_I_setHint.j2 s0 s6 t56 h Q)
def BTreeG_I_setHint.sh (a0 a1 a2 : Value) (h : Heap) (Q : Value → Heap → Prop) : Prop := box 30 a1 h fun t4 h => alloc [(.int .i64 0), (.int .i64 0)] 30 h fun t6 h => nilck a0 fun t13 => fld 2 t13 fun t14 => load1 t14 h fun t15 => eqNilP t15 fun t16 => ifV t16 (BTreeG_I_init.call #[a0, (.int .i64 0)] h fun t18 h => BTreeG_I_newNode.call #[a0, (.bool true)] h fun t21 h => nilck a0 fun t22 => fld 2 t22 fun t23 => store1 t23 t21 h fun h => nilck a0 fun t25 => fld 2 t25 fun t26 => load1 t26 h fun t27 => loadN 2 t4 h fun t29 => (mkSl (if 0 * 2 = 0 then [] else zeros [(.int .i64 0), (.int .i64 0)] 0) 0 [] 30 h fun t28 h => still1 t26 t27 h ∧ stillN 2 t4 t29 h ∧ mkSl (if 1 * 2 = 0 then [] else zeros [(.int .i64 0), (.int .i64 0)] 1) 1 [(0 * 2, 2, t29)] 30 h fun t30 h => still1 t26 t27 h ∧ app 30 2 16 [(.int .i64 0), (.int .i64 0)] t28 t30 h fun t31 h => still1 t26 t27 h ∧ nilck t27 fun t32 => fld 2 t32 fun t33 => store1 t33 t31 h fun h => nilck a0 fun t35 => fld 2 t35 fun t36 => load1 t36 h fun t37 => nilck t37 fun t38 => fld 1 t38 fun t39 => store1 t39 (.int .i64 1) h fun h => nilck a0 fun t41 => fld 3 t41 fun t42 => store1 t42 (.int .i64 1) h fun h => nilck a0 fun t44 => fld 7 t44 fun t45 => loadN 2 t45 h fun t46 => storeN 2 t6 t46 h fun h => loadN 2 t6 h fun r6 => Q (.tuple #[r6, (.bool false)]) h) ∧ (mkSl (if 1 * 2 = 0 then [] else zeros [(.int .i64 0), (.int .i64 0)] 1) 1 [(0 * 2, 2, t29)] 30 h fun t30_2 h => still1 t26 t27 h ∧ mkSl (if 0 * 2 = 0 then [] else zeros [(.int .i64 0), (.int .i64 0)] 0) 0 [] 30 h fun t28_2 h => still1 t26 t27 h ∧ app 30 2 16 [(.int .i64 0), (.int .i64 0)] t28_2 t30_2 h fun t31_2 h => still1 t26 t27 h ∧ nilck t27 fun t32_2 => fld 2 t32_2 fun t33_2 => store1 t33_2 t31_2 h fun h => nilck a0 fun t35_2 => fld 2 t35_2 fun t36_2 => load1 t36_2 h fun t37_2 => nilck t37_2 fun t38_2 => fld 1 t38_2 fun t39_2 => store1 t39_2 (.int .i64 1) h fun h => nilck a0 fun t41_2 => fld 3 t41_2 fun t42_2 => store1 t42_2 (.int .i64 1) h fun h => nilck a0 fun t44_2 => fld 7 t44_2 fun t45_2 => loadN 2 t45_2 h fun t46_2 => storeN 2 t6 t46_2 h fun h => loadN 2 t6 h fun r6_2 => Q (.tuple #[r6_2, (.bool false)]) h)) (BTreeG_I_setHint.j1 a0 a2 t4 t6 h Q)
theorem BTreeG_I_setHint.body (a0 a1 a2 : Value) (h : Heap) (Q : Value → Heap → Prop) (H : BTreeG_I_setHint.sh a0 a1 a2 h Q) : BTreeG_I_setHint.call #[a0, a1, a2] h Q := by
  refine callsH_of (args := [a0, a1, a2]) Try.func83 rfl rfl ?_; unfold BTreeG_I_setHint.sh at H; refine WPc_seq' ?_; refine W_region (by kernel_rfl) ?_; refine vl_n ?_; refine H_box H fun t4 h H => ?_; refine vl_n ?_; refine H_alloc TV_30 H fun t6 h H => ?_; refine vl_n ?_; refine H_of_R (R_assign (v := (.bool false)) rfl ?_)
  refine vl_e ?_; refine WPc_seq (fun e h => BTreeG_I_setHint.j1 (e 0) (e 2) (e 4) (e 6) h Q) ?_ (fun e h H => ?_)
  rotate_left
  · unfold BTreeG_I_setHint.j1 at H
    refine WPc_seq' ?_; refine W_drawn [0, 0, 2, 6, 0, 0, 63, 127, 255, 255, 255, 511, 3071, 8191] (.take 0 (.take 1 (.take 2 (.take 3 (.take 4 (.take 5 (.alt 6 (.take 7 (.take 8 (.take 9 (.take 10 (.alt 11 (.take 12 (.take 13 .done)) .none))))) .none))))))) mixed (by kernel_rfl) ?_; refine tkP rfl ?_; refine R_move (v := (e 0)) rfl ⟨fun _ => trivial, ?_⟩
    refine tkP rfl ?_; refine R_move (v := (e 0)) rfl ⟨fun _ => trivial, ?_⟩
    refine tkP rfl ?_; refine R_nil H fun t50 H => ⟨fun _ => trivial, ?_⟩
    refine tkP rfl ?_; refine R_fld TF_117_2 H fun t51 H => ⟨fun _ => trivial, ?_⟩
    refine tkL rfl ?_; refine R_loadN TN_30 H fun at52 xt52 hat52 _ H St52 hSt52 => ?_; refine tkP rfl ?_; refine R_move (v := (e 2)) rfl ⟨fun _ => trivial, ?_⟩
    refine alt_n rfl ?_ vp_none
    refine H_call HB_89 H fun t54 h H => ⟨(hskip rfl hnil), ?_⟩
    refine tkP rfl ?_; refine R_move (v := t54) rfl ⟨fun _ => trivial, ?_⟩
    refine tkP rfl ?_; refine R_ext H fun t55 H => ⟨fun _ => trivial, ?_⟩
    refine tkP rfl ?_; refine R_ext H fun t56 H => ⟨fun _ => trivial, ?_⟩
    refine tkP rfl ?_; refine R_ext H fun t57 H => ⟨fun _ => trivial, ?_⟩
    refine alt_n rfl ?_ vp_none
    refine H_storeN TS_30 H fun h H => ⟨hnil, ?_⟩
    refine tkP rfl ?_; refine R_assign (v := t56) rfl ⟨fun _ => trivial, ?_⟩
    refine tkP rfl ?_; refine R_assign (v := t57) rfl ⟨fun _ => trivial, ?_⟩
    refine vp_done ?_; refine WPc_seq (fun e h => BTreeG_I_setHint.j2 (e 0) (e 6) (e 7) h Q) ?_ (fun e h H => ?_)
    rotate_left
    · unfold BTreeG_I_setHint.j2 at H
      refine WPc_seq (fun e h => BTreeG_I_setHint.j3 (e 0) (e 6) h Q) ?_ (fun e h H => ?_)
      rotate_left
      · unfold BTreeG_I_setHint.j3 at H
        refine WPc_seq' ?_; refine W_region (by kernel_rfl) ?_; refine vl_n ?_; refine H_of_R (R_move (v := (e 0)) rfl ?_)
        refine vl_n ?_; refine H_of_R (R_nil H fun t126 H => ?_)
        refine vl_n ?_; refine H_of_R (R_fld TF_117_3 H fun t127 H => ?_)
        refine vl_n ?_; refine H_of_R (R_load1 T1_3 H fun _ t128 _ _ H => ?_)
        refine vl_n ?_; refine H_of_R (R_add H fun t129 H => ?_)
        refine vl_n ?_; refine H_of_R (R_nil H fun t130 H => ?_)
        refine vl_n ?_; refine H_of_R (R_fld TF_117_3 H fun t131 H => ?_)
        refine vl_n ?_; refine H_store1 TS_3 H fun h H => ?_; refine vl_e ?_; refine WPc_seq' ?_; refine W_region (by kernel_rfl) ?_; refine vl_n ?_; refine H_of_R (R_move (v := (e 0)) rfl ?_)
        refine vl_n ?_; refine H_of_R (R_nil H fun t133 H => ?_)
        refine vl_n ?_; refine H_of_R (R_fld TF_117_7 H fun t134 H => ?_)
        refine vl_n ?_; refine H_of_R (R_loadN TN_30 H fun _ t135 _ _ H _ _ => ?_)
        refine vl_n ?_; refine H_storeN TS_30 H fun h H => ?_; refine vl_n ?_; refine H_of_R (R_assign (v := (.bool false)) rfl ?_)
        refine vl_e ?_; refine WPc_ret ?_; refine resH_of rfl ?_; refine resL_N TN_30 ?_; refine loadN_imp H fun r6 H => ?_; refine resL_t ?_; exact H
      refine WPc_seq' ?_; refine W_region (by kernel_rfl) ?_; refine vl_n ?_; refine H_of_R (R_move (v := (e 7)) rfl ?_)
      refine vl_e ?_; obtain ⟨b, hc, H1, H2⟩ := H; refine WPc_cond hc (fun hh => ?_) (fun hh => ?_)
      · have H := H1 hh; clear H1 H2
        refine WPc_seq' ?_; refine W_region (by kernel_rfl) ?_; refine vl_n ?_; refine H_of_R (R_loadN TN_30 H fun _ t124 _ _ H _ _ => ?_)
        refine vl_n ?_; refine H_storeN TS_30 H fun h H => ?_; refine vl_n ?_; refine H_of_R (R_assign (v := (.bool true)) rfl ?_)
        refine vl_e ?_; refine WPc_ret ?_; refine resH_of rfl ?_; refine resL_N TN_30 ?_; refine loadN_imp H fun r6 H => ?_; refine resL_t ?_; exact H
      · have H := H2 hh; clear H1 H2
        refine WPc_skip ?_; exact H
    refine WPc_seq' ?_; refine W_region (by kernel_rfl) ?_; refine vl_n ?_; refine H_of_R (R_move (v := t57) rfl ?_)
    refine vl_e ?_; obtain ⟨b, hc, H1, H2⟩ := H; refine WPc_cond hc (fun hh => ?_) (fun hh => ?_)
    · have H := H1 hh; clear H1 H2
      refine WPc_seq' ?_; refine W_region (by kernel_rfl) ?_; refine vl_n ?_; refine H_of_R (R_move (v := (e 0)) rfl ?_)
      refine vl_n ?_; refine H_of_R (R_move (v := (e 0)) rfl ?_)
      refine vl_n ?_; refine H_of_R (R_nil H fun t61 H => ?_)
      refine vl_n ?_; refine H_of_R (R_fld TF_117_2 H fun t62 H => ?_)
      refine vl_n ?_; refine H_call HB_77 H fun t63 h H => ?_; refine vl_n ?_; refine H_of_R (R_assign (v := t63) rfl ?_)
      refine vl_e ?_; refine WPc_seq' ?_; refine W_region (by kernel_rfl) ?_; refine vl_n ?_; refine H_of_R (R_move (v := (e 0)) rfl ?_)
      refine vl_n ?_; refine H_of_R (R_move (v := t63) rfl ?_)
      refine vl_n ?_; refine H_call HB_90 H fun t67 h H => ?_; refine vl_n ?_; refine H_of_R (R_move (v := t67) rfl ?_)
      refine vl_n ?_; refine H_of_R (R_ext H fun t68 H => ?_)
      refine vl_n ?_; refine H_of_R (R_ext H fun t69 H => ?_)
      refine vl_n ?_; refine H_alloc TV_30 H fun t11 h H => ?_; refine vl_n ?_; refine H_of_R (R_assign (v := t68) rfl ?_)
      refine vl_n ?_; refine H_storeN TS_30 H fun h H => ?_; refine vl_e ?_; refine WPc_seq' ?_; refine W_region (by kernel_rfl) ?_; refine vl_n ?_; refine H_of_R (R_move (v := (e 0)) rfl ?_)
      refine vl_n ?_; refine H_of_R (R_move (v := (e 0)) rfl ?_)
      refine vl_n ?_; refine H_call HB_88 H fun t72 h H => ?_; refine vl_n ?_; refine H_of_R (R_nil H fun t73 H => ?_)
      refine vl_n ?_; refine H_of_R (R_fld TF_117_2 H fun t74 H => ?_)
      refine vl_n ?_; refine H_store1 TS_115 H fun h H => ?_; refine vl_e ?_; refine WPc_seq' ?_; refine W_drawn [0, 1, 3, 7, 15, 31, 63, 0, 128, 384, 896, 1920, 3968, 8191, 16383] (.take 0 (.take 1 (.take 2 (.take 3 (.take 4 (.take 5 (.take 6 (.take 7 (.take 8 (.take 9 (.take 10 (.take 11 (.alt 12 (.take 13 (.alt 14 .done .none)) .none))))))))))))) mixed (by kernel_rfl) ?_; refine tkP rfl ?_; refine R_move (v := (e 0)) rfl ⟨fun _ => trivial, ?_⟩
      refine tkP rfl ?_; refine R_nil H fun t76 H => ⟨fun _ => trivial, ?_⟩
      refine tkP rfl ?_; refine R_fld TF_117_2 H fun t77 H => ⟨fun _ => trivial, ?_⟩
      refine tkL rfl ?_; refine R_load1 T1_115 H fun at78 t78 hat78 _ H => ?_; refine tkP rfl ?_; refine R_nil H fun t79 H => ⟨fun _ => trivial, ?_⟩
      refine tkP rfl ?_; refine R_fld TF_129_3 H fun t80 H => ⟨fun _ => trivial, ?_⟩
      refine tkL rfl ?_; refine R_load1 T1_127 H fun at81 t81 hat81 _ H => ?_; refine tkP rfl ?_; refine R_move (v := (e 0)) rfl ⟨fun _ => trivial, ?_⟩
      refine tkP rfl ?_; refine R_nil H fun t83 H => ⟨fun _ => trivial, ?_⟩
      refine tkP rfl ?_; refine R_fld TF_117_8 H fun t84 H => ⟨fun _ => trivial, ?_⟩
      refine tkL rfl ?_; refine R_load1 T1_3 H fun at85 t85 hat85 _ H => ?_; refine tkP rfl ?_; refine R_add H fun t86 H => ⟨fun _ => trivial, ?_⟩
      refine alt_n rfl ?_ vp_none
      refine H_mks TZ_130 rfl H fun t87 h ⟨S, S_2, H⟩ => ⟨(hskip rfl (hcons rfl (still_1 S_2 hat81) (hcons rfl (still_1 S hat78) hnil))), ?_⟩
      refine tkP rfl ?_; refine R_nil H fun t88 H => ⟨fun _ => trivial, ?_⟩
      refine alt_n rfl ?_ vp_none
      refine H_store1 TS_130 H fun h H => ⟨(hskip rfl (hskip rfl hnil)), ?_⟩
      refine vp_done ?_; refine WPc_seq' ?_; refine W_drawn [0, 1, 3, 7, 15, 31, 63, 0, 0, 0, 768, 1920, 4095, 8191] (.take 0 (.take 1 (.take 2 (.take 3 (.take 4 (.take 5 (.take 6 (.take 8 (.take 9 (.alt 7 (.alt 10 (.alt 11 (.take 12 (.alt 13 .done .none)) .none) .none) (.alt 10 (.alt 7 (.alt 11 (.take 12 (.alt 13 .done .none)) .none) .none) .none))))))))))) mixed (by kernel_rfl) ?_; refine tkP rfl ?_; refine R_move (v := (e 0)) rfl ⟨fun _ => trivial, ?_⟩
      refine tkP rfl ?_; refine R_nil H fun t90 H => ⟨fun _ => trivial, ?_⟩
      refine tkP rfl ?_; refine R_fld TF_117_2 H fun t91 H => ⟨fun _ => trivial, ?_⟩
      refine tkL rfl ?_; refine R_load1 T1_115 H fun at92 t92 hat92 _ H => ?_; refine tkP rfl ?_; refine R_nil H fun t93 H => ⟨fun _ => trivial, ?_⟩
      refine tkP rfl ?_; refine R_fld TF_129_3 H fun t94 H => ⟨fun _ => trivial, ?_⟩
      refine tkL rfl ?_; refine R_load1 T1_127 H fun at95 t95 hat95 _ H => ?_; refine tkP rfl ?_; refine R_move (v := t63) rfl ⟨fun _ => trivial, ?_⟩
      refine tkP rfl ?_; refine R_move (v := t68) rfl ⟨fun _ => trivial, ?_⟩
      obtain ⟨HA0, HA1⟩ := H; refine alt_n rfl ?_ ?_
      · have H := HA0; clear HA0 HA1
        refine H_mkSl TZ_130 (by decide) rfl H rfl fun t96 h ⟨S_3, S_4, H⟩ => ⟨(hcons rfl (still_1 S_4 hat95) (hcons rfl (still_1 S_3 hat92) hnil)), ?_⟩
        refine alt_n rfl ?_ vp_none
        refine H_mkSl TZ_130 (by decide) rfl H rfl fun t99 h ⟨S_5, S_6, H⟩ => ⟨(hcons rfl (still_1 S_6 hat95) (hcons rfl (still_1 S_5 hat92) hnil)), ?_⟩
        refine alt_n rfl ?_ vp_none
        refine H_app TZ_130 TU_130 H fun t100 h ⟨S_7, S_8, H⟩ => ⟨(hcons rfl (still_1 S_8 hat95) (hcons rfl (still_1 S_7 hat92) hnil)), ?_⟩
        refine tkP rfl ?_; refine R_nil H fun t101 H => ⟨fun _ => trivial, ?_⟩
        refine alt_n rfl ?_ vp_none
        refine H_store1 TS_130 H fun h H => ⟨(hskip rfl (hskip rfl hnil)), ?_⟩
        refine vp_done ?_; refine WPc_seq' ?_; refine W_drawn [0, 1, 3, 7, 0, 0, 32, 112, 255, 511, 1023] (.take 0 (.take 1 (.take 2 (.take 3 (.take 5 (.alt 4 (.alt 6 (.alt 7 (.take 8 (.take 9 (.alt 10 .done .none))) .none) .none) (.alt 6 (.alt 4 (.alt 7 (.take 8 (.take 9 (.alt 10 .done .none))) .none) .none) .none))))))) mixed (by kernel_rfl) ?_; refine tkP rfl ?_; refine R_move (v := (e 0)) rfl ⟨fun _ => trivial, ?_⟩
        refine tkP rfl ?_; refine R_nil H fun t103 H => ⟨fun _ => trivial, ?_⟩
        refine tkP rfl ?_; refine R_fld TF_117_2 H fun t104 H => ⟨fun _ => trivial, ?_⟩
        refine tkL rfl ?_; refine R_load1 T1_115 H fun at105 t105 hat105 _ H => ?_; refine tkL rfl ?_; refine R_loadN TN_30 H fun at107 xt107 hat107 _ H St107 hSt107 => ?_; obtain ⟨HA0, HA1⟩ := H; refine alt_n rfl ?_ ?_
        · have H := HA0; clear HA0 HA1
          refine H_mkSl TZ_25 (by decide) rfl H rfl fun t106 h ⟨S_9, S_10, H⟩ => ⟨(hcons rfl (hSt107 _ (still_N S_10 hat107 rfl)) (hcons rfl (still_1 S_9 hat105) hnil)), ?_⟩
          refine alt_n rfl ?_ vp_none
          refine H_mkSl TZ_25 (by decide) rfl H rfl fun t108 h ⟨S_11, H⟩ => ⟨(hskip rfl (hcons rfl (still_1 S_11 hat105) hnil)), ?_⟩
          refine alt_n rfl ?_ vp_none
          refine H_app TZ_25 TU_25 H fun t109 h ⟨S_12, H⟩ => ⟨(hcons rfl (still_1 S_12 hat105) hnil), ?_⟩
          refine tkP rfl ?_; refine R_nil H fun t110 H => ⟨fun _ => trivial, ?_⟩
          refine tkP rfl ?_; refine R_fld TF_129_2 H fun t111 H => ⟨fun _ => trivial, ?_⟩
          refine alt_n rfl ?_ vp_none
          refine H_store1 TS_25 H fun h H => ⟨(hskip rfl hnil), ?_⟩
          refine vp_done ?_; refine WPc_seq' ?_; refine W_region (by kernel_rfl) ?_; refine vl_n ?_; refine H_of_R (R_move (v := (e 0)) rfl ?_)
          refine vl_n ?_; refine H_of_R (R_nil H fun t113 H => ?_)
          refine vl_n ?_; refine H_of_R (R_fld TF_117_2 H fun t114 H => ?_)
          refine vl_n ?_; refine H_of_R (R_load1 T1_115 H fun _ t115 _ _ H => ?_)
          refine vl_n ?_; refine H_call HB_91 H fun t116 h H => ?_; refine vl_e ?_; refine WPc_seq' ?_; refine W_region (by kernel_rfl) ?_; refine vl_n ?_; refine H_of_R (R_move (v := (e 0)) rfl ?_)
          refine vl_n ?_; refine H_of_R (R_loadN TN_30 H fun _ t118 _ _ H _ _ => ?_)
          refine vl_n ?_; refine H_of_R (R_move (v := (e 2)) rfl ?_)
          refine vl_n ?_; refine H_call HB_83 H fun t120 h H => ?_; refine vl_n ?_; refine H_of_R (R_ext H fun t121 H => ?_)
          refine vl_n ?_; refine H_of_R (R_ext H fun t122 H => ?_)
          refine vl_n ?_; refine H_storeN TS_30 H fun h H => ?_; refine vl_n ?_; refine H_of_R (R_assign (v := t122) rfl ?_)
          refine vl_e ?_; refine WPc_ret ?_; refine resH_of rfl ?_; refine resL_N TN_30 ?_; refine loadN_imp H fun r6 H => ?_; refine resL_t ?_; exact H
        refine alt_n rfl ?_ vp_none
        have H := HA1; clear HA0 HA1
        refine H_mkSl TZ_25 (by decide) rfl H rfl fun t108_2 h ⟨S_13, H⟩ => ⟨(hskip rfl (hcons rfl (still_1 S_13 hat105) hnil)), ?_⟩
        refine alt_n rfl ?_ vp_none
        refine H_mkSl TZ_25 (by decide) rfl H rfl fun t106_2 h ⟨S_14, H⟩ => ⟨(hcons rfl (still_1 S_14 hat105) hnil), ?_⟩
        refine alt_n rfl ?_ vp_none
        refine H_app TZ_25 TU_25 H fun t109_2 h ⟨S_15, H⟩ => ⟨(hcons rfl (still_1 S_15 hat105) hnil), ?_⟩
        refine tkP rfl ?_; refine R_nil H fun t110_2 H => ⟨fun _ => trivial, ?_⟩
        refine tkP rfl ?_; refine R_fld TF_129_2 H fun t111_2 H => ⟨fun _ => trivial, ?_⟩
        refine alt_n rfl ?_ vp_none
        refine H_store1 TS_25 H fun h H => ⟨(hskip rfl hnil), ?_⟩
        refine vp_done ?_; refine WPc_seq' ?_; refine W_region (by kernel_rfl) ?_; refine vl_n ?_; refine H_of_R (R_move (v := (e 0)) rfl ?_)
        refine vl_n ?_; refine H_of_R (R_nil H fun t113_2 H => ?_)
        refine vl_n ?_; refine H_of_R (R_fld TF_117_2 H fun t114_2 H => ?_)
        refine vl_n ?_; refine H_of_R (R_load1 T1_115 H fun _ t115_2 _ _ H => ?_)
        refine vl_n ?_; refine H_call HB_91 H fun t116_2 h H => ?_; refine vl_e ?_; refine WPc_seq' ?_; refine W_region (by kernel_rfl) ?_; refine vl_n ?_; refine H_of_R (R_move (v := (e 0)) rfl ?_)
        refine vl_n ?_; refine H_of_R (R_loadN TN_30 H fun _ t118_2 _ _ H _ _ => ?_)
        refine vl_n ?_; refine H_of_R (R_move (v := (e 2)) rfl ?_)
        refine vl_n ?_; refine H_call HB_83 H fun t120_2 h H => ?_; refine vl_n ?_; refine H_of_R (R_ext H fun t121_2 H => ?_)
        refine vl_n ?_; refine H_of_R (R_ext H fun t122_2 H => ?_)
        refine vl_n ?_; refine H_storeN TS_30 H fun h H => ?_; refine vl_n ?_; refine H_of_R (R_assign (v := t122_2) rfl ?_)
        refine vl_e ?_; refine WPc_ret ?_; refine resH_of rfl ?_; refine resL_N TN_30 ?_; refine loadN_imp H fun r6_2 H => ?_; refine resL_t ?_; exact H
      refine alt_n rfl ?_ vp_none
      have H := HA1; clear HA0 HA1
      refine H_mkSl TZ_130 (by decide) rfl H rfl fun t99_2 h ⟨S_16, S_17, H⟩ => ⟨(hcons rfl (still_1 S_17 hat95) (hcons rfl (still_1 S_16 hat92) hnil)), ?_⟩
      refine alt_n rfl ?_ vp_none
      refine H_mkSl TZ_130 (by decide) rfl H rfl fun t96_2 h ⟨S_18, S_19, H⟩ => ⟨(hcons rfl (still_1 S_19 hat95) (hcons rfl (still_1 S_18 hat92) hnil)), ?_⟩
      refine alt_n rfl ?_ vp_none
      refine H_app TZ_130 TU_130 H fun t100_2 h ⟨S_20, S_21, H⟩ => ⟨(hcons rfl (still_1 S_21 hat95) (hcons rfl (still_1 S_20 hat92) hnil)), ?_⟩
      refine tkP rfl ?_; refine R_nil H fun t101_2 H => ⟨fun _ => trivial, ?_⟩
      refine alt_n rfl ?_ vp_none
      refine H_store1 TS_130 H fun h H => ⟨(hskip rfl (hskip rfl hnil)), ?_⟩
      refine vp_done ?_; refine WPc_seq' ?_; refine W_drawn [0, 1, 3, 7, 0, 0, 32, 112, 255, 511, 1023] (.take 0 (.take 1 (.take 2 (.take 3 (.take 5 (.alt 4 (.alt 6 (.alt 7 (.take 8 (.take 9 (.alt 10 .done .none))) .none) .none) (.alt 6 (.alt 4 (.alt 7 (.take 8 (.take 9 (.alt 10 .done .none))) .none) .none) .none))))))) mixed (by kernel_rfl) ?_; refine tkP rfl ?_; refine R_move (v := (e 0)) rfl ⟨fun _ => trivial, ?_⟩
      refine tkP rfl ?_; refine R_nil H fun t103_2 H => ⟨fun _ => trivial, ?_⟩
      refine tkP rfl ?_; refine R_fld TF_117_2 H fun t104_2 H => ⟨fun _ => trivial, ?_⟩
      refine tkL rfl ?_; refine R_load1 T1_115 H fun at105_2 t105_2 hat105_2 _ H => ?_; refine tkL rfl ?_; refine R_loadN TN_30 H fun at107_2 xt107_2 hat107_2 _ H St107_2 hSt107_2 => ?_; obtain ⟨HA0, HA1⟩ := H; refine alt_n rfl ?_ ?_
      · have H := HA0; clear HA0 HA1
        refine H_mkSl TZ_25 (by decide) rfl H rfl fun t106_3 h ⟨S_22, S_23, H⟩ => ⟨(hcons rfl (hSt107_2 _ (still_N S_23 hat107_2 rfl)) (hcons rfl (still_1 S_22 hat105_2) hnil)), ?_⟩
        refine alt_n rfl ?_ vp_none
        refine H_mkSl TZ_25 (by decide) rfl H rfl fun t108_3 h ⟨S_24, H⟩ => ⟨(hskip rfl (hcons rfl (still_1 S_24 hat105_2) hnil)), ?_⟩
        refine alt_n rfl ?_ vp_none
        refine H_app TZ_25 TU_25 H fun t109_3 h ⟨S_25, H⟩ => ⟨(hcons rfl (still_1 S_25 hat105_2) hnil), ?_⟩
        refine tkP rfl ?_; refine R_nil H fun t110_3 H => ⟨fun _ => trivial, ?_⟩
        refine tkP rfl ?_; refine R_fld TF_129_2 H fun t111_3 H => ⟨fun _ => trivial, ?_⟩
        refine alt_n rfl ?_ vp_none
        refine H_store1 TS_25 H fun h H => ⟨(hskip rfl hnil), ?_⟩
        refine vp_done ?_; refine WPc_seq' ?_; refine W_region (by kernel_rfl) ?_; refine vl_n ?_; refine H_of_R (R_move (v := (e 0)) rfl ?_)
        refine vl_n ?_; refine H_of_R (R_nil H fun t113_3 H => ?_)
        refine vl_n ?_; refine H_of_R (R_fld TF_117_2 H fun t114_3 H => ?_)
        refine vl_n ?_; refine H_of_R (R_load1 T1_115 H fun _ t115_3 _ _ H => ?_)
        refine vl_n ?_; refine H_call HB_91 H fun t116_3 h H => ?_; refine vl_e ?_; refine WPc_seq' ?_; refine W_region (by kernel_rfl) ?_; refine vl_n ?_; refine H_of_R (R_move (v := (e 0)) rfl ?_)
        refine vl_n ?_; refine H_of_R (R_loadN TN_30 H fun _ t118_3 _ _ H _ _ => ?_)
        refine vl_n ?_; refine H_of_R (R_move (v := (e 2)) rfl ?_)
        refine vl_n ?_; refine H_call HB_83 H fun t120_3 h H => ?_; refine vl_n ?_; refine H_of_R (R_ext H fun t121_3 H => ?_)
        refine vl_n ?_; refine H_of_R (R_ext H fun t122_3 H => ?_)
        refine vl_n ?_; refine H_storeN TS_30 H fun h H => ?_; refine vl_n ?_; refine H_of_R (R_assign (v := t122_3) rfl ?_)
        refine vl_e ?_; refine WPc_ret ?_; refine resH_of rfl ?_; refine resL_N TN_30 ?_; refine loadN_imp H fun r6_3 H => ?_; refine resL_t ?_; exact H
      refine alt_n rfl ?_ vp_none
      have H := HA1; clear HA0 HA1
      refine H_mkSl TZ_25 (by decide) rfl H rfl fun t108_4 h ⟨S_26, H⟩ => ⟨(hskip rfl (hcons rfl (still_1 S_26 hat105_2) hnil)), ?_⟩
      refine alt_n rfl ?_ vp_none
      refine H_mkSl TZ_25 (by decide) rfl H rfl fun t106_4 h ⟨S_27, H⟩ => ⟨(hcons rfl (still_1 S_27 hat105_2) hnil), ?_⟩
      refine alt_n rfl ?_ vp_none
      refine H_app TZ_25 TU_25 H fun t109_4 h ⟨S_28, H⟩ => ⟨(hcons rfl (still_1 S_28 hat105_2) hnil), ?_⟩
      refine tkP rfl ?_; refine R_nil H fun t110_4 H => ⟨fun _ => trivial, ?_⟩
      refine tkP rfl ?_; refine R_fld TF_129_2 H fun t111_4 H => ⟨fun _ => trivial, ?_⟩
      refine alt_n rfl ?_ vp_none
      refine H_store1 TS_25 H fun h H => ⟨(hskip rfl hnil), ?_⟩
      refine vp_done ?_; refine WPc_seq' ?_; refine W_region (by kernel_rfl) ?_; refine vl_n ?_; refine H_of_R (R_move (v := (e 0)) rfl ?_)
      refine vl_n ?_; refine H_of_R (R_nil H fun t113_4 H => ?_)
      refine vl_n ?_; refine H_of_R (R_fld TF_117_2 H fun t114_4 H => ?_)
      refine vl_n ?_; refine H_of_R (R_load1 T1_115 H fun _ t115_4 _ _ H => ?_)
      refine vl_n ?_; refine H_call HB_91 H fun t116_4 h H => ?_; refine vl_e ?_; refine WPc_seq' ?_; refine W_region (by kernel_rfl) ?_; refine vl_n ?_; refine H_of_R (R_move (v := (e 0)) rfl ?_)
      refine vl_n ?_; refine H_of_R (R_loadN TN_30 H fun _ t118_4 _ _ H _ _ => ?_)
      refine vl_n ?_; refine H_of_R (R_move (v := (e 2)) rfl ?_)
      refine vl_n ?_; refine H_call HB_83 H fun t120_4 h H => ?_; refine vl_n ?_; refine H_of_R (R_ext H fun t121_4 H => ?_)
      refine vl_n ?_; refine H_of_R (R_ext H fun t122_4 H => ?_)
      refine vl_n ?_; refine H_storeN TS_30 H fun h H => ?_; refine vl_n ?_; refine H_of_R (R_assign (v := t122_4) rfl ?_)
      refine vl_e ?_; refine WPc_ret ?_; refine resH_of rfl ?_; refine resL_N TN_30 ?_; refine loadN_imp H fun r6_4 H => ?_; refine resL_t ?_; exact H
    · have H := H2 hh; clear H1 H2
      refine WPc_skip ?_; exact H
  refine WPc_seq' ?_; refine W_region (by kernel_rfl) ?_; refine vl_n ?_; refine H_of_R (R_move (v := a0) rfl ?_)
  refine vl_n ?_; refine H_of_R (R_nil H fun t13 H => ?_)
  refine vl_n ?_; refine H_of_R (R_fld TF_117_2 H fun t14 H => ?_)
  refine vl_n ?_; refine H_of_R (R_load1 T1_115 H fun _ t15 _ _ H => ?_)
  refine vl_n ?_; refine H_of_R (R_eqNilP Try.underlying115 rfl H fun t16 H => ?_)
  refine vl_e ?_; obtain ⟨b, hc, H1, H2⟩ := H; refine WPc_cond hc (fun hh => ?_) (fun hh => ?_)
  · have H := H1 hh; clear H1 H2
    refine WPc_seq' ?_; refine W_region (by kernel_rfl) ?_; refine vl_n ?_; refine H_of_R (R_move (v := a0) rfl ?_)
    refine vl_n ?_; refine H_call HB_67 H fun t18 h H => ?_; refine vl_e ?_; refine WPc_seq' ?_; refine W_region (by kernel_rfl) ?_; refine vl_n ?_; refine H_of_R (R_move (v := a0) rfl ?_)
    refine vl_n ?_; refine H_of_R (R_move (v := a0) rfl ?_)
    refine vl_n ?_; refine H_call HB_88 H fun t21 h H => ?_; refine vl_n ?_; refine H_of_R (R_nil H fun t22 H => ?_)
    refine vl_n ?_; refine H_of_R (R_fld TF_117_2 H fun t23 H => ?_)
    refine vl_n ?_; refine H_store1 TS_115 H fun h H => ?_; refine vl_e ?_; refine WPc_seq' ?_; refine W_drawn [0, 1, 3, 7, 0, 0, 32, 112, 255, 511, 1023] (.take 0 (.take 1 (.take 2 (.take 3 (.take 5 (.alt 4 (.alt 6 (.alt 7 (.take 8 (.take 9 (.alt 10 .done .none))) .none) .none) (.alt 6 (.alt 4 (.alt 7 (.take 8 (.take 9 (.alt 10 .done .none))) .none) .none) .none))))))) mixed (by kernel_rfl) ?_; refine tkP rfl ?_; refine R_move (v := a0) rfl ⟨fun _ => trivial, ?_⟩
    refine tkP rfl ?_; refine R_nil H fun t25 H => ⟨fun _ => trivial, ?_⟩
    refine tkP rfl ?_; refine R_fld TF_117_2 H fun t26 H => ⟨fun _ => trivial, ?_⟩
    refine tkL rfl ?_; refine R_load1 T1_115 H fun at27 t27 hat27 _ H => ?_; refine tkL rfl ?_; refine R_loadN TN_30 H fun at29 xt29 hat29 _ H St29 hSt29 => ?_; obtain ⟨HA0, HA1⟩ := H; refine alt_n rfl ?_ ?_
    · have H := HA0; clear HA0 HA1
      refine H_mkSl TZ_25 (by decide) rfl H rfl fun t28 h ⟨S, S_2, H⟩ => ⟨(hcons rfl (hSt29 _ (still_N S_2 hat29 rfl)) (hcons rfl (still_1 S hat27) hnil)), ?_⟩
      refine alt_n rfl ?_ vp_none
      refine H_mkSl TZ_25 (by decide) rfl H rfl fun t30 h ⟨S_3, H⟩ => ⟨(hskip rfl (hcons rfl (still_1 S_3 hat27) hnil)), ?_⟩
      refine alt_n rfl ?_ vp_none
      refine H_app TZ_25 TU_25 H fun t31 h ⟨S_4, H⟩ => ⟨(hcons rfl (still_1 S_4 hat27) hnil), ?_⟩
      refine tkP rfl ?_; refine R_nil H fun t32 H => ⟨fun _ => trivial, ?_⟩
      refine tkP rfl ?_; refine R_fld TF_129_2 H fun t33 H => ⟨fun _ => trivial, ?_⟩
      refine alt_n rfl ?_ vp_none
      refine H_store1 TS_25 H fun h H => ⟨(hskip rfl hnil), ?_⟩
      refine vp_done ?_; refine WPc_seq' ?_; refine W_region (by kernel_rfl) ?_; refine vl_n ?_; refine H_of_R (R_move (v := a0) rfl ?_)
      refine vl_n ?_; refine H_of_R (R_nil H fun t35 H => ?_)
      refine vl_n ?_; refine H_of_R (R_fld TF_117_2 H fun t36 H => ?_)
      refine vl_n ?_; refine H_of_R (R_load1 T1_115 H fun _ t37 _ _ H => ?_)
      refine vl_n ?_; refine H_of_R (R_nil H fun t38 H => ?_)
      refine vl_n ?_; refine H_of_R (R_fld TF_129_1 H fun t39 H => ?_)
      refine vl_n ?_; refine H_store1 TS_3 H fun h H => ?_; refine vl_e ?_; refine WPc_seq' ?_; refine W_region (by kernel_rfl) ?_; refine vl_n ?_; refine H_of_R (R_move (v := a0) rfl ?_)
      refine vl_n ?_; refine H_of_R (R_nil H fun t41 H => ?_)
      refine vl_n ?_; refine H_of_R (R_fld TF_117_3 H fun t42 H => ?_)
      refine vl_n ?_; refine H_store1 TS_3 H fun h H => ?_; refine vl_e ?_; refine WPc_seq' ?_; refine W_region (by kernel_rfl) ?_; refine vl_n ?_; refine H_of_R (R_move (v := a0) rfl ?_)
      refine vl_n ?_; refine H_of_R (R_nil H fun t44 H => ?_)
      refine vl_n ?_; refine H_of_R (R_fld TF_117_7 H fun t45 H => ?_)
      refine vl_n ?_; refine H_of_R (R_loadN TN_30 H fun _ t46 _ _ H _ _ => ?_)
      refine vl_n ?_; refine H_storeN TS_30 H fun h H => ?_; refine vl_n ?_; refine H_of_R (R_assign (v := (.bool false)) rfl ?_)
      refine vl_e ?_; refine WPc_ret ?_; refine resH_of rfl ?_; refine resL_N TN_30 ?_; refine loadN_imp H fun r6 H => ?_; refine resL_t ?_; exact H
    refine alt_n rfl ?_ vp_none
    have H := HA1; clear HA0 HA1
    refine H_mkSl TZ_25 (by decide) rfl H rfl fun t30_2 h ⟨S_5, H⟩ => ⟨(hskip rfl (hcons rfl (still_1 S_5 hat27) hnil)), ?_⟩
    refine alt_n rfl ?_ vp_none
    refine H_mkSl TZ_25 (by decide) rfl H rfl fun t28_2 h ⟨S_6, H⟩ => ⟨(hcons rfl (still_1 S_6 hat27) hnil), ?_⟩
    refine alt_n rfl ?_ vp_none
    refine H_app TZ_25 TU_25 H fun t31_2 h ⟨S_7, H⟩ => ⟨(hcons rfl (still_1 S_7 hat27) hnil), ?_⟩
    refine tkP rfl ?_; refine R_nil H fun t32_2 H => ⟨fun _ => trivial, ?_⟩
    refine tkP rfl ?_; refine R_fld TF_129_2 H fun t33_2 H => ⟨fun _ => trivial, ?_⟩
    refine alt_n rfl ?_ vp_none
    refine H_store1 TS_25 H fun h H => ⟨(hskip rfl hnil), ?_⟩
    refine vp_done ?_; refine WPc_seq' ?_; refine W_region (by kernel_rfl) ?_; refine vl_n ?_; refine H_of_R (R_move (v := a0) rfl ?_)
    refine vl_n ?_; refine H_of_R (R_nil H fun t35_2 H => ?_)
    refine vl_n ?_; refine H_of_R (R_fld TF_117_2 H fun t36_2 H => ?_)
    refine vl_n ?_; refine H_of_R (R_load1 T1_115 H fun _ t37_2 _ _ H => ?_)
    refine vl_n ?_; refine H_of_R (R_nil H fun t38_2 H => ?_)
    refine vl_n ?_; refine H_of_R (R_fld TF_129_1 H fun t39_2 H => ?_)
    refine vl_n ?_; refine H_store1 TS_3 H fun h H => ?_; refine vl_e ?_; refine WPc_seq' ?_; refine W_region (by kernel_rfl) ?_; refine vl_n ?_; refine H_of_R (R_move (v := a0) rfl ?_)
    refine vl_n ?_; refine H_of_R (R_nil H fun t41_2 H => ?_)
    refine vl_n ?_; refine H_of_R (R_fld TF_117_3 H fun t42_2 H => ?_)
    refine vl_n ?_; refine H_store1 TS_3 H fun h H => ?_; refine vl_e ?_; refine WPc_seq' ?_; refine W_region (by kernel_rfl) ?_; refine vl_n ?_; refine H_of_R (R_move (v := a0) rfl ?_)
    refine vl_n ?_; refine H_of_R (R_nil H fun t44_2 H => ?_)
    refine vl_n ?_; refine H_of_R (R_fld TF_117_7 H fun t45_2 H => ?_)
    refine vl_n ?_; refine H_of_R (R_loadN TN_30 H fun _ t46_2 _ _ H _ _ => ?_)
    refine vl_n ?_; refine H_storeN TS_30 H fun h H => ?_; refine vl_n ?_; refine H_of_R (R_assign (v := (.bool false)) rfl ?_)
    refine vl_e ?_; refine WPc_ret ?_; refine resH_of rfl ?_; refine resL_N TN_30 ?_; refine loadN_imp H fun r6_2 H => ?_; refine resL_t ?_; exact H
  · have H := H2 hh; clear H1 H2
    refine WPc_skip ?_; exact H
end Go.Proofs.Ythpmeccnddchpaa
end
section
namespace Go.Proofs.Ythpmeccnddchpaa
open Go.Hp
set_option maxRecDepth 100000
set_option maxHeartbeats 8000000
/-! ### (*pub/tidwallbtree.BTreeG[impl.Item]).SetHint -/
def BTreeG_I_SetHint.sh (a0 a1 a2 : Value) (h : Heap) (Q : Value → Heap → Prop) : Prop := box 30 a1 h fun t4 h => alloc [(.int .i64 0), (.int .i64 0)] 30 h fun t6 h => loadN 2 t4 h fun t10 => BTreeG_I_setHint.call #[a0, t10, a2] h fun t12 h => extr 0 t12 fun t13 => extr 1 t12 fun t14 => storeN 2 t6 t13 h fun h => loadN 2 t6 h fun t15 => storeN 2 t6 t15 h fun h => loadN 2 t6 h fun r6 => Q (.tuple #[r6, t14]) h
theorem BTreeG_I_SetHint.body (a0 a1 a2 : Value) (h : Heap) (Q : Value → Heap → Prop) (H : BTreeG_I_SetHint.sh a0 a1 a2 h Q) : BTreeG_I_SetHint.call #[a0, a1, a2] h Q := by
  refine callsH_of (args := [a0, a1, a2]) Try.func71 rfl rfl ?_; unfold BTreeG_I_SetHint.sh at H; refine WPc_seq' ?_; refine W_region (by kernel_rfl) ?_; refine vl_n ?_; refine H_box H fun t4 h H => ?_; refine vl_n ?_; refine H_alloc TV_30 H fun t6 h H => ?_; refine vl_n ?_; refine H_of_R (R_assign (v := (.bool false)) rfl ?_)
  refine vl_e ?_; refine WPc_seq' ?_; refine W_region (by kernel_rfl) ?_; refine vl_n ?_; refine H_of_R (R_move (v := a0) rfl ?_)
  refine vl_n ?_; refine H_of_R (R_loadN TN_30 H fun _ t10 _ _ H _ _ => ?_)
  refine vl_n ?_; refine H_of_R (R_move (v := a2) rfl ?_)
  refine vl_n ?_; refine H_call HB_83 H fun t12 h H => ?_; refine vl_n ?_; refine H_of_R (R_move (v := t12) rfl ?_)
  refine vl_n ?_; refine H_of_R (R_ext H fun t13 H => ?_)
  refine vl_n ?_; refine H_of_R (R_ext H fun t14 H => ?_)
  refine vl_n ?_; refine H_storeN TS_30 H fun h H => ?_; refine vl_n ?_; refine H_of_R (R_assign (v := t14) rfl ?_)
  refine vl_e ?_; refine WPc_seq' ?_; refine W_region (by kernel_rfl) ?_; refine vl_n ?_; refine H_of_R (R_loadN TN_30 H fun _ t15 _ _ H _ _ => ?_)
  refine vl_n ?_; refine H_of_R (R_move (v := t14) rfl ?_)
  refine vl_n ?_; refine H_storeN TS_30 H fun h H => ?_; refine vl_n ?_; refine H_of_R (R_assign (v := t14) rfl ?_)
  refine vl_e ?_; refine WPc_ret ?_; refine resH_of rfl ?_; refine resL_N TN_30 ?_; refine loadN_imp H fun r6 H => ?_; refine resL_t ?_; exact H
/-! ### (*pub/tidwallbtree.BTreeG[impl.Item]).Set -/
def BTreeG_I_Set.sh (a0 a1 : Value) (h : Heap) (Q : Value → Heap → Prop) : Prop := box 30 a1 h fun t3 h => alloc [(.int .i64 0), (.int .i64 0)] 30 h fun t4 h => loadN 2 t3 h fun t7 => BTreeG_I_SetHint.call #[a0, t7, (.pointer none)] h fun t8 h => extr 0 t8 fun t9 => extr 1 t8 fun t10 => storeN 2 t4 t9 h fun h => loadN 2 t4 h fun r4 => Q (.tuple #[r4, t10]) h
theorem BTreeG_I_Set.body (a0 a1 : Value) (h : Heap) (Q : Value → Heap → Prop) (H : BTreeG_I_Set.sh a0 a1 h Q) : BTreeG_I_Set.call #[a0, a1] h Q := by
  refine callsH_of (args := [a0, a1]) Try.func57 rfl rfl ?_; unfold BTreeG_I_Set.sh at H; refine WPc_seq' ?_; refine W_region (by kernel_rfl) ?_; refine vl_n ?_; refine H_box H fun t3 h H => ?_; refine vl_n ?_; refine H_alloc TV_30 H fun t4 h H => ?_; refine vl_n ?_; refine H_of_R (R_assign (v := (.bool false)) rfl ?_)
  refine vl_e ?_; refine WPc_seq' ?_; refine W_region (by kernel_rfl) ?_; refine vl_n ?_; refine H_of_R (R_move (v := a0) rfl ?_)
  refine vl_n ?_; refine H_of_R (R_loadN TN_30 H fun _ t7 _ _ H _ _ => ?_)
  refine vl_n ?_; refine H_call HB_71 H fun t8 h H => ?_; refine vl_n ?_; refine H_of_R (R_ext H fun t9 H => ?_)
  refine vl_n ?_; refine H_of_R (R_ext H fun t10 H => ?_)
  refine vl_n ?_; refine H_storeN TS_30 H fun h H => ?_; refine vl_n ?_; refine H_of_R (R_assign (v := t10) rfl ?_)
  refine vl_e ?_; refine WPc_ret ?_; refine resH_of rfl ?_; refine resL_N TN_30 ?_; refine loadN_imp H fun r4 H => ?_; refine resL_t ?_; exact H
/-! ### impl.grow -/
def i_grow.j1 (s5 : Value) (h : Heap) (Q : Value → Heap → Prop) : Prop := Q s5 h
def i_grow.j4 (s5 s14 s15 s16 : Value) (h : Heap) (K1 : List Value → Heap → Prop) (Q : Value → Heap → Prop) : Prop := arith (· + ·) s16 (.int .i64 1) fun t23 => K1 [t23] h
def i_grow.j3 (s5 s14 s15 s16 : Value) (h : Heap) (K1 : List Value → Heap → Prop) (Q : Value → Heap → Prop) : Prop := idx 2 s14 s16 fun t18 => loadN 2 t18 h fun t19 => alloc [(.int .i64 0), (.int .i64 0)] 30 h fun t7 h => storeN 2 t7 t19 h fun h => loadN 2 t7 h fun t21 => BTreeG_I_Set.call #[s5, t21] h fun t22 h => i_grow.j4 s5 s14 s15 s16 h K1 Q
def i_grow.l2.b (c5 c14 c15 s16 : Value) (h : Heap) (K1 : List Value → Heap → Prop) (Q : Value → Heap → Prop) : Prop := cmpI (fun a b => decide (a < b)) s16 c15 fun t17 => ifV t17 (i_grow.j3 c5 c14 c15 s16 h K1 Q) (i_grow.j1 c5 h Q)
def i_grow.sh (a0 a1 : Value) (h : Heap) (Q : Value → Heap → Prop) : Prop := box 34 a0 h fun t2 h => fld 0 t2 fun t8 => load1 t8 h fun t9 => loadN 3 t2 h fun t11 => i_before.call #[t9] h fun t10 h => stillN 3 t2 t11 h ∧ i_options.call #[t11] h fun t12 h => NewBTreeGOptions_I.call #[t10, t12] h fun t13 h => lenV a1 fun t15 => loopC (fun c s h K1 => i_grow.l2.b (c.getD 0 undef) (c.getD 1 undef) (c.getD 2 undef) (s.getD 0 undef) h K1 Q) [t13, a1, t15] [(.int .i64 0)] h
theorem i_grow.body (a0 a1 : Value) (h : Heap) (Q : Value → Heap → Prop) (H : i_grow.sh a0 a1 h Q) : i_grow.call #[a0, a1] h Q := by
  refine callsH_of (args := [a0, a1]) Try.func40 rfl rfl ?_; unfold i_grow.sh at H; refine WPc_seq' ?_; refine W_region (by kernel_rfl) ?_; refine vl_n ?_; refine H_box H fun t2 h H => ?_; refine vl_n ?_; refine H_of_R (R_assign (v := (.pointer none)) rfl ?_)
  refine vl_e ?_; refine WPc_seq' ?_; refine W_drawn [0, 1, 3, 0, 15, 31, 63] (.take 0 (.take 1 (.take 3 (.alt 2 (.alt 4 (.alt 5 (.take 6 .done) .none) .none) .none)))) mixed (by kernel_rfl) ?_; refine tkP rfl ?_; refine R_fld TF_34_0 H fun t8 H => ⟨fun _ => trivial, ?_⟩
  refine tkL rfl ?_; refine R_load1 T1_32 H fun at9 t9 hat9 _ H => ?_; refine tkL rfl ?_; refine R_loadN TN_34 H fun at11 xt11 hat11 _ H St11 hSt11 => ?_; refine alt_n rfl ?_ vp_none
  refine H_call HB_55 H fun t10 h ⟨S, H⟩ => ⟨(hcons rfl (hSt11 _ (still_N S hat11 rfl)) (hskip rfl hnil)), ?_⟩
  refine alt_n rfl ?_ vp_none
  refine H_call HB_56 H fun t12 h H => ⟨(hskip rfl hnil), ?_⟩
  refine alt_n rfl ?_ vp_none
  refine H_call HB_54 H fun t13 h H => ⟨hnil, ?_⟩
  refine tkP rfl ?_; refine R_assign (v := t13) rfl ⟨fun _ => trivial, ?_⟩
  refine vp_done ?_; refine WPc_seq (fun e h => i_grow.j1 (e 5) h Q) ?_ (fun e h H => ?_)
  rotate_left
  · unfold i_grow.j1 at H
    refine WPc_seq' ?_; refine W_region (by kernel_rfl) ?_; refine vl_n ?_; refine H_of_R (R_move (v := (e 5)) rfl ?_)
    refine vl_n ?_; refine H_of_R (R_assign (v := (e 5)) rfl ?_)
    refine vl_e ?_; refine WPc_ret ?_; refine resH_of rfl ?_; exact H
  refine WPc_seq' ?_; refine W_region (by kernel_rfl) ?_; refine vl_n ?_; refine H_of_R (R_move (v := a1) rfl ?_)
  refine vl_n ?_; refine H_of_R (R_len Try.underlying25 H fun t15 H => ?_)
  refine vl_n ?_; refine H_of_R (R_move (v := (.int .i64 0)) rfl ?_)
  refine vl_e ?_; refine WPc_block ?_; refine loop_at (fun e => [e 16]) (fun e => [e 5, e 14, e 15]) H rfl rfl ?_; intro K1 e1 h H hin1
  replace H : i_grow.l2.b (e1 5) (e1 14) (e1 15) (e1 16) h K1 Q := H
  unfold i_grow.l2.b at H; clear hin1; refine WPc_seq' ?_; refine W_region (by kernel_rfl) ?_; refine vl_n ?_; refine H_of_R (R_lss H fun t17 H => ?_)
  refine vl_e ?_; refine WPc_seq (fun e h => i_grow.j3 (e 5) (e 14) (e 15) (e 16) h K1 Q ∧ [e1 5, e1 14, e1 15] = [e 5, e 14, e 15]) ?_ (fun e h ⟨H, hq1⟩ => ?_)
  rotate_left
  · unfold i_grow.j3 at H
    refine WPc_seq (fun e h => i_grow.j4 (e 5) (e 14) (e 15) (e 16) h K1 Q ∧ [e1 5, e1 14, e1 15] = [e 5, e 14, e 15]) ?_ (fun e h ⟨H, hq1⟩ => ?_)
    rotate_left
    · unfold i_grow.j4 at H
      refine W_region (by kernel_rfl) ?_; refine vl_n ?_; refine H_of_R (R_add H fun t23 H => ?_)
      refine vl_n ?_; refine H_of_R (R_move (v := t23) rfl ?_)
      refine vl_e ?_; exact ⟨H, hq1⟩
    refine WPc_block ?_; refine WPc_seq' ?_; refine W_region (by kernel_rfl) ?_; refine vl_n ?_; refine H_of_R (R_idx TE_25 H fun t18 H => ?_)
    refine vl_n ?_; refine H_of_R (R_loadN TN_30 H fun _ t19 _ _ H _ _ => ?_)
    refine vl_n ?_; refine H_alloc TV_30 H fun t7 h H => ?_; refine vl_n ?_; refine H_storeN TS_30 H fun h H => ?_; refine vl_e ?_; refine W_region (by kernel_rfl) ?_; refine vl_n ?_; refine H_of_R (R_move (v := (e 5)) rfl ?_)
    refine vl_n ?_; refine H_of_R (R_loadN TN_30 H fun _ t21 _ _ H _ _ => ?_)
    refine vl_n ?_; refine H_call HB_57 H fun t22 h H => ?_; refine vl_e ?_; exact ⟨H, hq1⟩
  obtain ⟨b, hc, H1, H2⟩ := H; refine WPc_cond hc (fun hh => ?_) (fun hh => ?_)
  · have H := H1 hh; clear H1 H2
    refine WPc_skip ?_; exact ⟨H, rfl⟩
  · have H := H2 hh; clear H1 H2
    refine WPc_exit ?_; exact H
/-! ### (*pub/tidwallbtree.BTreeG[impl.Item]).lock -/
def BTreeG_I_lock.sh (a0 a1 : Value) (h : Heap) (Q : Value → Heap → Prop) : Prop := Q (.bool false) h
theorem BTreeG_I_lock.body (a0 a1 : Value) (h : Heap) (Q : Value → Heap → Prop) (H : BTreeG_I_lock.sh a0 a1 h Q) : BTreeG_I_lock.call #[a0, a1] h Q := by
  refine callsH_of (args := [a0, a1]) Try.func72 rfl rfl ?_; unfold BTreeG_I_lock.sh at H; refine WPc_seq' ?_; refine W_region (by kernel_rfl) ?_; refine vl_n ?_; refine H_of_R (R_assign (v := (.bool false)) rfl ?_)
  refine vl_e ?_; refine WPc_seq' ?_; refine W_region (by kernel_rfl) ?_; refine vl_n ?_; refine H_of_R (R_assign (v := (.bool false)) rfl ?_)
  refine vl_e ?_; refine WPc_ret ?_; refine resH_of rfl ?_; exact H
/-! ### (*pub/tidwallbtree.BTreeG[impl.Item]).Len -/
def BTreeG_I_Len.sh (a0 : Value) (h : Heap) (Q : Value → Heap → Prop) : Prop := nilck a0 fun t4 => fld 3 t4 fun t5 => load1 t5 h fun t6 => Q t6 h
theorem BTreeG_I_Len.body (a0 : Value) (h : Heap) (Q : Value → Heap → Prop) (H : BTreeG_I_Len.sh a0 h Q) : BTreeG_I_Len.call #[a0] h Q := by
  refine callsH_of (args := [a0]) Try.func74 rfl rfl ?_; unfold BTreeG_I_Len.sh at H; refine WPc_seq' ?_; refine W_region (by kernel_rfl) ?_; refine vl_n ?_; refine H_of_R (R_assign (v := (.int .i64 0)) rfl ?_)
  refine vl_e ?_; refine WPc_seq' ?_; refine W_region (by kernel_rfl) ?_; refine vl_n ?_; refine H_of_R (R_move (v := a0) rfl ?_)
  refine vl_n ?_; refine H_of_R (R_nil H fun t4 H => ?_)
  refine vl_n ?_; refine H_of_R (R_fld TF_117_3 H fun t5 H => ?_)
  refine vl_n ?_; refine H_of_R (R_load1 T1_3 H fun _ t6 _ _ H => ?_)
  refine vl_n ?_; refine H_of_R (R_assign (v := t6) rfl ?_)
  refine vl_e ?_; refine WPc_ret ?_; refine resH_of rfl ?_; exact H
/-! ### (*pub/tidwallbtree.BTreeG[impl.Item]).nodeItems -/
def BTreeG_I_nodeItems.j2 (s0 s2 s3 s9 : Value) (h : Heap) (Q : Value → Heap → Prop) : Prop := nilck s9 fun t56 => fld 3 t56 fun t57 => load1 t57 h fun t58 => nilck t58 fun t59 => load1 t59 h fun t60 => nilck s9 fun t62 => fld 3 t62 fun t63 => load1 t63 h fun t64 => nilck t64 fun t65 => load1 t65 h fun t66 => lenV t66 fun t67 => arith (· - ·) t67 (.int .i64 1) fun t68 => idx 1 t60 t68 fun t69 => BTreeG_I_nodeItems.call #[s0, t69, s2, s3] h fun t72 h => Q t72 h
def BTreeG_I_nodeItems.j5 (s0 s2 s3 s9 s10 : Value) (h : Heap) (K1 : List Value → Heap → Prop) (Q : Value → Heap → Prop) : Prop := arith (· + ·) s10 (.int .i64 1) fun t31 => K1 [s2, t31] h
def BTreeG_I_nodeItems.j4 (s0 s2 s3 s9 s10 : Value) (h : Heap) (K1 : List Value → Heap → Prop) (Q : Value → Heap → Prop) : Prop := nilck s9 fun t34 => fld 3 t34 fun t35 => load1 t35 h fun t36 => nilck t36 fun t37 => load1 t37 h fun t38 => idx 1 t38 s10 fun t40 => BTreeG_I_nodeItems.call #[s0, t40, s2, s3] h fun t43 h => nilck s9 fun t46 => fld 2 t46 fun t47 => load1 t47 h fun t48 => idx 2 t48 s10 fun t50 => loadN 2 t50 h fun t51 => mkSl (if 1 * 2 = 0 then [] else zeros [(.int .i64 0), (.int .i64 0)] 1) 1 [(0 * 2, 2, t51)] 30 h fun t52 h => app 30 2 16 [(.int .i64 0), (.int .i64 0)] t43 t52 h fun t53 h => BTreeG_I_nodeItems.j5 s0 t53 s3 s9 s10 h K1 Q
def BTreeG_I_nodeItems.l3.b (c0 c3 c9 s2 s10 : Value) (h : Heap) (K1 : List Value → Heap → Prop) (Q : Value → Heap → Prop) : Prop := nilck c9 fun t25 => fld 2 t25 fun t26 => load1 t26 h fun t27 => lenV t27 fun t28 => cmpI (fun a b => decide (a < b)) s10 t28 fun t29 => ifV t29 (BTreeG_I_nodeItems.j4 c0 s2 c3 c9 s10 h K1 Q) (BTreeG_I_nodeItems.j2 c0 s2 c3 c9 h Q)
def BTreeG_I_nodeItems.j1 (s0 s2 s3 s9 : Value) (h : Heap) (Q : Value → Heap → Prop) : Prop := loopC (fun c s h K1 => BTreeG_I_nodeItems.l3.b (c.getD 0 undef) (c.getD 1 undef) (c.getD 2 undef) (s.getD 0 undef) (s.getD 1 undef) h K1 Q) [s0, s3, s9] [s2, (.int .i64 0)] h
def BTreeG_I_nodeItems.sh (a0 a1 a2 a3 : Value) (h : Heap) (Q : Value → Heap → Prop) : Prop := BTreeG_I_isoLoad.call #[a0, a1, a3] h fun t14 h => node_I_leaf.call #[t14] h fun t16 h => ifV t16 (nilck t14 fun t19 => fld 2 t19 fun t20 => load1 t20 h fun t21 => app 30 2 16 [(.int .i64 0), (.int .i64 0)] a2 t21 h fun t22 h => Q t22 h) (BTreeG_I_nodeItems.j1 a0 a2 a3 t14 h Q)
theorem BTreeG_I_nodeItems.body (a0 a1 a2 a3 : Value) (h : Heap) (Q : Value → Heap → Prop) (H : BTreeG_I_nodeItems.sh a0 a1 a2 a3 h Q) : BTreeG_I_nodeItems.call #[a0, a1, a2, a3] h Q := by
  refine callsH_of (args := [a0, a1, a2, a3]) Try.func75 rfl rfl ?_; unfold BTreeG_I_nodeItems.sh at H; refine WPc_seq' ?_; refine W_region (by kernel_rfl) ?_; refine vl_n ?_; refine H_of_R (R_assign (v := (.slice none 0 0)) rfl ?_)
  refine vl_e ?_; refine WPc_seq' ?_; refine W_region (by kernel_rfl) ?_; refine vl_n ?_; refine H_of_R (R_move (v := a0) rfl ?_)
  refine vl_n ?_; refine H_of_R (R_move (v := a1) rfl ?_)
  refine vl_n ?_; refine H_of_R (R_move (v := a3) rfl ?_)
  refine vl_n ?_; refine H_call HB_77 H fun t14 h H => ?_; refine vl_n ?_; refine H_of_R (R_assign (v := t14) rfl ?_)
  refine vl_e ?_; refine WPc_seq (fun e h => BTreeG_I_nodeItems.j1 (e 0) (e 2) (e 3) (e 9) h Q) ?_ (fun e h H => ?_)
  rotate_left
  · unfold BTreeG_I_nodeItems.j1 at H
    refine WPc_seq (fun e h => BTreeG_I_nodeItems.j2 (e 0) (e 2) (e 3) (e 9) h Q) ?_ (fun e h H => ?_)
    rotate_left
    · unfold BTreeG_I_nodeItems.j2 at H
      refine WPc_seq' ?_; refine W_drawn [0, 0, 2, 6, 14, 30, 62, 0, 128, 384, 896, 1920, 3968, 8064, 16256, 32766, 0, 0, 262143, 524287] (.take 0 (.take 1 (.take 2 (.take 3 (.take 4 (.take 5 (.take 6 (.take 7 (.take 8 (.take 9 (.take 10 (.take 11 (.take 12 (.take 13 (.take 14 (.take 15 (.take 16 (.take 17 (.alt 18 (.take 19 .done) .none))))))))))))))))))) mixed (by kernel_rfl) ?_; refine tkP rfl ?_; refine R_move (v := (e 0)) rfl ⟨fun _ => trivial, ?_⟩
      refine tkP rfl ?_; refine R_move (v := (e 9)) rfl ⟨fun _ => trivial, ?_⟩
      refine tkP rfl ?_; refine R_nil H fun t56 H => ⟨fun _ => trivial, ?_⟩
      refine tkP rfl ?_; refine R_fld TF_129_3 H fun t57 H => ⟨fun _ => trivial, ?_⟩
      refine tkL rfl ?_; refine R_load1 T1_127 H fun at58 t58 hat58 _ H => ?_; refine tkP rfl ?_; refine R_nil H fun t59 H => ⟨fun _ => trivial, ?_⟩
      refine tkL rfl ?_; refine R_load1 T1_130 H fun at60 t60 hat60 _ H => ?_; refine tkP rfl ?_; refine R_move (v := (e 9)) rfl ⟨fun _ => trivial, ?_⟩
      refine tkP rfl ?_; refine R_nil H fun t62 H => ⟨fun _ => trivial, ?_⟩
      refine tkP rfl ?_; refine R_fld TF_129_3 H fun t63 H => ⟨fun _ => trivial, ?_⟩
      refine tkL rfl ?_; refine R_load1 T1_127 H fun at64 t64 hat64 _ H => ?_; refine tkP rfl ?_; refine R_nil H fun t65 H => ⟨fun _ => trivial, ?_⟩
      refine tkL rfl ?_; refine R_load1 T1_130 H fun at66 t66 hat66 _ H => ?_; refine tkP rfl ?_; refine R_len Try.underlying130 H fun t67 H => ⟨fun _ => trivial, ?_⟩
      refine tkP rfl ?_; refine R_sub H fun t68 H => ⟨fun _ => trivial, ?_⟩
      refine tkP rfl ?_; refine R_idx TE_130 H fun t69 H => ⟨fun _ => trivial, ?_⟩
      refine tkP rfl ?_; refine R_move (v := (e 2)) rfl ⟨fun _ => trivial, ?_⟩
      refine tkP rfl ?_; refine R_move (v := (e 3)) rfl ⟨fun _ => trivial, ?_⟩
      refine alt_n rfl ?_ vp_none
      refine H_call HB_75 H fun t72 h H => ⟨(hskip rfl (hskip rfl (hskip rfl (hskip rfl hnil)))), ?_⟩
      refine tkP rfl ?_; refine R_assign (v := t72) rfl ⟨fun _ => trivial, ?_⟩
      refine vp_done ?_; refine WPc_ret ?_; refine resH_of rfl ?_; exact H
    refine WPc_seq' ?_; refine W_region (by kernel_rfl) ?_; refine vl_n ?_; refine H_of_R (R_assign (v := (.int .i64 0)) rfl ?_)
    refine vl_e ?_; refine WPc_block ?_; refine loop_at (fun e => [e 2, e 10]) (fun e => [e 0, e 3, e 9]) H rfl rfl ?_; intro K1 e1 h H hin1
    replace H : BTreeG_I_nodeItems.l3.b (e1 0) (e1 3) (e1 9) (e1 2) (e1 10) h K1 Q := H
    unfold BTreeG_I_nodeItems.l3.b at H; clear hin1; refine WPc_seq (fun e h => BTreeG_I_nodeItems.j4 (e 0) (e 2) (e 3) (e 9) (e 10) h K1 Q ∧ [e1 0, e1 3, e1 9] = [e 0, e 3, e 9]) ?_ (fun e h ⟨H, hq1⟩ => ?_)
    rotate_left
    · unfold BTreeG_I_nodeItems.j4 at H
      refine WPc_seq (fun e h => BTreeG_I_nodeItems.j5 (e 0) (e 2) (e 3) (e 9) (e 10) h K1 Q ∧ [e1 0, e1 3, e1 9] = [e 0, e 3, e 9]) ?_ (fun e h ⟨H, hq1⟩ => ?_)
      rotate_left
      · unfold BTreeG_I_nodeItems.j5 at H
        refine W_region (by kernel_rfl) ?_; refine vl_n ?_; refine H_of_R (R_move (v := (e 10)) rfl ?_)
        refine vl_n ?_; refine H_of_R (R_add H fun t31 H => ?_)
        refine vl_n ?_; refine H_of_R (R_assign (v := t31) rfl ?_)
        refine vl_e ?_; exact ⟨H, hq1⟩
      refine WPc_block ?_; refine WPc_seq' ?_; refine W_region (by kernel_rfl) ?_; refine vl_n ?_; refine H_of_R (R_move (v := (e 0)) rfl ?_)
      refine vl_n ?_; refine H_of_R (R_move (v := (e 9)) rfl ?_)
      refine vl_n ?_; refine H_of_R (R_nil H fun t34 H => ?_)
      refine vl_n ?_; refine H_of_R (R_fld TF_129_3 H fun t35 H => ?_)
      refine vl_n ?_; refine H_of_R (R_load1 T1_127 H fun _ t36 _ _ H => ?_)
      refine vl_n ?_; refine H_of_R (R_nil H fun t37 H => ?_)
      refine vl_n ?_; refine H_of_R (R_load1 T1_130 H fun _ t38 _ _ H => ?_)
      refine vl_n ?_; refine H_of_R (R_move (v := (e 10)) rfl ?_)
      refine vl_n ?_; refine H_of_R (R_idx TE_130 H fun t40 H => ?_)
      refine vl_n ?_; refine H_of_R (R_move (v := (e 2)) rfl ?_)
      refine vl_n ?_; refine H_of_R (R_move (v := (e 3)) rfl ?_)
      refine vl_n ?_; refine H_call HB_75 H fun t43 h H => ?_; refine vl_n ?_; refine H_of_R (R_assign (v := t43) rfl ?_)
      refine vl_e ?_; refine W_region (by kernel_rfl) ?_; refine vl_n ?_; refine H_of_R (R_move (v := t43) rfl ?_)
      refine vl_n ?_; refine H_of_R (R_move (v := (e 9)) rfl ?_)
      refine vl_n ?_; refine H_of_R (R_nil H fun t46 H => ?_)
      refine vl_n ?_; refine H_of_R (R_fld TF_129_2 H fun t47 H => ?_)
      refine vl_n ?_; refine H_of_R (R_load1 T1_25 H fun _ t48 _ _ H => ?_)
      refine vl_n ?_; refine H_of_R (R_move (v := (e 10)) rfl ?_)
      refine vl_n ?_; refine H_of_R (R_idx TE_25 H fun t50 H => ?_)
      refine vl_n ?_; refine H_of_R (R_loadN TN_30 H fun _ t51 _ _ H _ _ => ?_)
      refine vl_n ?_; refine H_mkSl TZ_25 (by decide) rfl H rfl fun t52 h H => ?_; refine vl_n ?_; refine H_app TZ_25 TU_25 H fun t53 h H => ?_; refine vl_n ?_; refine H_of_R (R_assign (v := t53) rfl ?_)
      refine vl_e ?_; exact ⟨H, hq1⟩
    refine WPc_seq' ?_; refine W_region (by kernel_rfl) ?_; refine vl_n ?_; refine H_of_R (R_move (v := (e1 10)) rfl ?_)
    refine vl_n ?_; refine H_of_R (R_move (v := (e1 9)) rfl ?_)
    refine vl_n ?_; refine H_of_R (R_nil H fun t25 H => ?_)
    refine vl_n ?_; refine H_of_R (R_fld TF_129_2 H fun t26 H => ?_)
    refine vl_n ?_; refine H_of_R (R_load1 T1_25 H fun _ t27 _ _ H => ?_)
    refine vl_n ?_; refine H_of_R (R_len Try.underlying25 H fun t28 H => ?_)
    refine vl_n ?_; refine H_of_R (R_lss H fun t29 H => ?_)
    refine vl_e ?_; obtain ⟨b, hc, H1, H2⟩ := H; refine WPc_cond hc (fun hh => ?_) (fun hh => ?_)
    · have H := H1 hh; clear H1 H2
      refine WPc_skip ?_; exact ⟨H, rfl⟩
    · have H := H2 hh; clear H1 H2
      refine WPc_exit ?_; exact H
  refine WPc_seq' ?_; refine W_region (by kernel_rfl) ?_; refine vl_n ?_; refine H_of_R (R_move (v := t14) rfl ?_)
  refine vl_n ?_; refine H_call HB_78 H fun t16 h H => ?_; refine vl_e ?_; obtain ⟨b, hc, H1, H2⟩ := H; refine WPc_cond hc (fun hh => ?_) (fun hh => ?_)
  · have H := H1 hh; clear H1 H2
    refine WPc_seq' ?_; refine W_region (by kernel_rfl) ?_; refine vl_n ?_; refine H_of_R (R_move (v := a2) rfl ?_)
    refine vl_n ?_; refine H_of_R (R_move (v := t14) rfl ?_)
    refine vl_n ?_; refine H_of_R (R_nil H fun t19 H => ?_)
    refine vl_n ?_; refine H_of_R (R_fld TF_129_2 H fun t20 H => ?_)
    refine vl_n ?_; refine H_of_R (R_load1 T1_25 H fun _ t21 _ _ H => ?_)
    refine vl_n ?_; refine H_app TZ_25 TU_25 H fun t22 h H => ?_; refine vl_n ?_; refine H_of_R (R_assign (v := t22) rfl ?_)
    refine vl_e ?_; refine WPc_ret ?_; refine resH_of rfl ?_; exact H
  · have H := H2 hh; clear H1 H2
    refine WPc_skip ?_; exact H
/-! ### (*pub/tidwallbtree.BTreeG[impl.Item]).items -/
def BTreeG_I_items.j2 (s5 : Value) (h : Heap) (Q : Value → Heap → Prop) : Prop := Q s5 h
def BTreeG_I_items.j1 (s0 s1 : Value) (h : Heap) (Q : Value → Heap → Prop) : Prop := BTreeG_I_Len.call #[s0] h fun t12 h => mks 30 2 16 [(.int .i64 0), (.int .i64 0)] (.int .i64 0) t12 h fun t13 h => nilck s0 fun t15 => fld 2 t15 fun t16 => load1 t16 h fun t17 => neNilP t17 fun t18 => ifV t18 (nilck s0 fun t21 => fld 2 t21 fun t22 => BTreeG_I_nodeItems.call #[s0, t22, t13, s1] h fun t25 h => BTreeG_I_items.j2 t25 h Q) (BTreeG_I_items.j2 t13 h Q)
def BTreeG_I_items.sh (a0 a1 : Value) (h : Heap) (Q : Value → Heap → Prop) : Prop := BTreeG_I_lock.call #[a0, a1] h fun t8 h => ifV t8 (False) (BTreeG_I_items.j1 a0 a1 h Q)
theorem BTreeG_I_items.body (a0 a1 : Value) (h : Heap) (Q : Value → Heap → Prop) (H : BTreeG_I_items.sh a0 a1 h Q) : BTreeG_I_items.call #[a0, a1] h Q := by
  refine callsH_of (args := [a0, a1]) Try.func58 rfl rfl ?_; unfold BTreeG_I_items.sh at H; refine WPc_seq' ?_; refine W_region (by kernel_rfl) ?_; refine vl_n ?_; refine H_of_R (R_assign (v := (.slice none 0 0)) rfl ?_)
  refine vl_e ?_; refine WPc_seq (fun e h => BTreeG_I_items.j1 (e 0) (e 1) h Q) ?_ (fun e h H => ?_)
  rotate_left
  · unfold BTreeG_I_items.j1 at H
    refine WPc_seq' ?_; refine W_region (by kernel_rfl) ?_; refine vl_n ?_; refine H_of_R (R_move (v := (e 0)) rfl ?_)
    refine vl_n ?_; refine H_call HB_74 H fun t12 h H => ?_; refine vl_n ?_; refine H_mks TZ_25 rfl H fun t13 h H => ?_; refine vl_n ?_; refine H_of_R (R_assign (v := t13) rfl ?_)
    refine vl_e ?_; refine WPc_seq (fun e h => BTreeG_I_items.j2 (e 5) h Q) ?_ (fun e h H => ?_)
    rotate_left
    · unfold BTreeG_I_items.j2 at H
      refine WPc_seq' ?_; refine W_region (by kernel_rfl) ?_; refine vl_n ?_; refine H_of_R (R_move (v := (e 5)) rfl ?_)
      refine vl_n ?_; refine H_of_R (R_assign (v := (e 5)) rfl ?_)
      refine vl_e ?_; refine WPc_ret ?_; refine resH_of rfl ?_; exact H
    refine WPc_seq' ?_; refine W_region (by kernel_rfl) ?_; refine vl_n ?_; refine H_of_R (R_move (v := (e 0)) rfl ?_)
    refine vl_n ?_; refine H_of_R (R_nil H fun t15 H => ?_)
    refine vl_n ?_; refine H_of_R (R_fld TF_117_2 H fun t16 H => ?_)
    refine vl_n ?_; refine H_of_R (R_load1 T1_115 H fun _ t17 _ _ H => ?_)
    refine vl_n ?_; refine H_of_R (R_neNilP Try.underlying115 rfl H fun t18 H => ?_)
    refine vl_e ?_; obtain ⟨b, hc, H1, H2⟩ := H; refine WPc_cond hc (fun hh => ?_) (fun hh => ?_)
    · have H := H1 hh; clear H1 H2
      refine W_region (by kernel_rfl) ?_; refine vl_n ?_; refine H_of_R (R_move (v := (e 0)) rfl ?_)
      refine vl_n ?_; refine H_of_R (R_move (v := (e 0)) rfl ?_)
      refine vl_n ?_; refine H_of_R (R_nil H fun t21 H => ?_)
      refine vl_n ?_; refine H_of_R (R_fld TF_117_2 H fun t22 H => ?_)
      refine vl_n ?_; refine H_of_R (R_move (v := t13) rfl ?_)
      refine vl_n ?_; refine H_of_R (R_move (v := (e 1)) rfl ?_)
      refine vl_n ?_; refine H_call HB_75 H fun t25 h H => ?_; refine vl_n ?_; refine H_of_R (R_assign (v := t25) rfl ?_)
      refine vl_e ?_; exact H
    · have H := H2 hh; clear H1 H2
      refine WPc_skip ?_; exact H
  refine WPc_seq' ?_; refine W_region (by kernel_rfl) ?_; refine vl_n ?_; refine H_of_R (R_move (v := a0) rfl ?_)
  refine vl_n ?_; refine H_of_R (R_move (v := a1) rfl ?_)
  refine vl_n ?_; refine H_call HB_72 H fun t8 h H => ?_; refine vl_e ?_; obtain ⟨b, hc, H1, H2⟩ := H; refine WPc_cond hc (fun hh => ?_) (fun hh => ?_)
  · have H := H1 hh; clear H1 H2
    refine W_region (by kernel_rfl) ?_; refine vl_n ?_; refine H_of_R (R_move (v := a0) rfl ?_)
    refine vl_n ?_; refine H_of_R (R_move (v := a1) rfl ?_)
    refine vl_n ?_; exact H.elim
  · have H := H2 hh; clear H1 H2
    refine WPc_skip ?_; exact H
/-! ### (*pub/tidwallbtree.BTreeG[impl.Item]).Items -/
def BTreeG_I_Items.sh (a0 : Value) (h : Heap) (Q : Value → Heap → Prop) : Prop := BTreeG_I_items.call #[a0, (.bool false)] h fun t4 h => Q t4 h
theorem BTreeG_I_Items.body (a0 : Value) (h : Heap) (Q : Value → Heap → Prop) (H : BTreeG_I_Items.sh a0 h Q) : BTreeG_I_Items.call #[a0] h Q := by
  refine callsH_of (args := [a0]) Try.func41 rfl rfl ?_; unfold BTreeG_I_Items.sh at H; refine WPc_seq' ?_; refine W_region (by kernel_rfl) ?_; refine vl_n ?_; refine H_of_R (R_assign (v := (.slice none 0 0)) rfl ?_)
  refine vl_e ?_; refine WPc_seq' ?_; refine W_region (by kernel_rfl) ?_; refine vl_n ?_; refine H_of_R (R_move (v := a0) rfl ?_)
  refine vl_n ?_; refine H_call HB_58 H fun t4 h H => ?_; refine vl_n ?_; refine H_of_R (R_assign (v := t4) rfl ?_)
  refine vl_e ?_; refine WPc_ret ?_; refine resH_of rfl ?_; exact H
/-! ### impl.GItems -/
def i_GItems.sh (a0 a1 : Value) (h : Heap) (Q : Value → Heap → Prop) : Prop := box 34 a0 h fun t2 h => loadN 3 t2 h fun t5 => i_grow.call #[t5, a1] h fun t7 h => BTreeG_I_Items.call #[t7] h fun t8 h => Q t8 h
theorem i_GItems.body (a0 a1 : Value) (h : Heap) (Q : Value → Heap → Prop) (H : i_GItems.sh a0 a1 h Q) : i_GItems.call #[a0, a1] h Q := by
  refine callsH_of (args := [a0, a1]) Try.func13 rfl rfl ?_; unfold i_GItems.sh at H; refine WPc_seq' ?_; refine W_region (by kernel_rfl) ?_; refine vl_n ?_; refine H_box H fun t2 h H => ?_; refine vl_n ?_; refine H_of_R (R_assign (v := (.slice none 0 0)) rfl ?_)
  refine vl_e ?_; refine WPc_seq' ?_; refine W_region (by kernel_rfl) ?_; refine vl_n ?_; refine H_of_R (R_loadN TN_34 H fun _ t5 _ _ H _ _ => ?_)
  refine vl_n ?_; refine H_of_R (R_move (v := a1) rfl ?_)
  refine vl_n ?_; refine H_call HB_40 H fun t7 h H => ?_; refine vl_n ?_; refine H_call HB_41 H fun t8 h H => ?_; refine vl_n ?_; refine H_of_R (R_assign (v := t8) rfl ?_)
  refine vl_e ?_; refine WPc_ret ?_; refine resH_of rfl ?_; exact H
/-! ### laws.exMake -/
def l_exMake.sh (h : Heap) (Q : Value → Heap → Prop) : Prop := alloc [(.slice none 0 0), (.int .i64 0), (.bool false)] 34 h fun t0 h => buildV [(.slice none 0 0), (.int .i64 0), (.bool false)] [(1, 1, (.int .i64 2))] fun t1 => storeN 3 t0 t1 h fun h => loadN 3 t0 h fun r0 => Q r0 h
theorem l_exMake.body (h : Heap) (Q : Value → Heap → Prop) (H : l_exMake.sh h Q) : l_exMake.call #[] h Q := by
  refine callsH_of (args := []) Try.func38 rfl rfl ?_; unfold l_exMake.sh at H; refine WPc_seq' ?_; refine W_region (by kernel_rfl) ?_; refine vl_n ?_; refine H_alloc TV_34 H fun t0 h H => ?_; refine vl_e ?_; refine WPc_seq' ?_; refine W_region (by kernel_rfl) ?_; refine vl_n ?_; refine H_of_R (R_build TB_34 rfl (by decide) H fun t1 H => ?_)
  refine vl_n ?_; refine H_storeN TS_34 H fun h H => ?_; refine vl_e ?_; refine WPc_ret ?_; refine resH_of rfl ?_; refine resL_N TN_34 ?_; refine loadN_imp H fun r0 H => ?_; exact H
/-! ### laws.exItems -/
def l_exItems.sh (h : Heap) (Q : Value → Heap → Prop) : Prop := buildV [(.int .i64 0), (.int .i64 0)] [(0, 1, (.int .i64 5)), (1, 1, (.int .i64 1))] fun t1 => buildV [(.int .i64 0), (.int .i64 0)] [(0, 1, (.int .i64 3)), (1, 1, (.int .i64 2))] fun t2 => buildV [(.int .i64 0), (.int .i64 0)] [(0, 1, (.int .i64 9)), (1, 1, (.int .i64 3))] fun t3 => buildV [(.int .i64 0), (.int .i64 0)] [(0, 1, (.int .i64 3)), (1, 1, (.int .i64 4))] fun t4 => buildV [(.int .i64 0), (.int .i64 0)] [(0, 1, (.int .i64 1)), (1, 1, (.int .i64 5))] fun t5 => buildV [(.int .i64 0), (.int .i64 0)] [(0, 1, (.int .i64 7)), (1, 1, (.int .i64 6))] fun t6 => buildV [(.int .i64 0), (.int .i64 0)] [(0, 1, (.int .i64 8)), (1, 1, (.int .i64 7))] fun t7 => mkSl (if 7 * 2 = 0 then [] else zeros [(.int .i64 0), (.int .i64 0)] 7) 7 [(0 * 2, 2, t1), (1 * 2, 2, t2), (2 * 2, 2, t3), (3 * 2, 2, t4), (4 * 2, 2, t5), (5 * 2, 2, t6), (6 * 2, 2, t7)] 30 h fun t8 h => Q t8 h
theorem l_exItems.body (h : Heap) (Q : Value → Heap → Prop) (H : l_exItems.sh h Q) : l_exItems.call #[] h Q := by
  refine callsH_of (args := []) Try.func39 rfl rfl ?_; unfold l_exItems.sh at H; refine WPc_seq' ?_; refine W_region (by kernel_rfl) ?_; refine vl_n ?_; refine H_of_R (R_assign (v := (.slice none 0 0)) rfl ?_)
  refine vl_e ?_; refine WPc_seq' ?_; refine W_region (by kernel_rfl) ?_; refine vl_n ?_; refine H_of_R (R_build TB_30 rfl (by decide) H fun t1 H => ?_)
  refine vl_n ?_; refine H_of_R (R_build TB_30 rfl (by decide) H fun t2 H => ?_)
  refine vl_n ?_; refine H_of_R (R_build TB_30 rfl (by decide) H fun t3 H => ?_)
  refine vl_n ?_; refine H_of_R (R_build TB_30 rfl (by decide) H fun t4 H => ?_)
  refine vl_n ?_; refine H_of_R (R_build TB_30 rfl (by decide) H fun t5 H => ?_)
  refine vl_n ?_; refine H_of_R (R_build TB_30 rfl (by decide) H fun t6 H => ?_)
  refine vl_n ?_; refine H_of_R (R_build TB_30 rfl (by decide) H fun t7 H => ?_)
  refine vl_n ?_; refine H_mkSl TZ_25 (by decide) rfl H rfl fun t8 h H => ?_; refine vl_n ?_; refine H_of_R (R_assign (v := t8) rfl ?_)
  refine vl_e ?_; refine WPc_ret ?_; refine resH_of rfl ?_; exact H
/-! ### laws.alive -/
def l_alive.sh (h : Heap) (Q : Value → Heap → Prop) : Prop := l_exMake.call #[] h fun t1 h => l_exItems.call #[] h fun t2 h => slc 2 t2 none (some (.int .i64 3)) none fun t3 => i_GItems.call #[t1, t3] h fun t4 h => lenV t4 fun t5 => cmpI (fun a b => a == b) t5 (.int .i64 3) fun t6 => Q t6 h
theorem l_alive.body (h : Heap) (Q : Value → Heap → Prop) (H : l_alive.sh h Q) : l_alive.call #[] h Q := by
  refine callsH_of (args := []) Try.func12 rfl rfl ?_; unfold l_alive.sh at H; refine WPc_seq' ?_; refine W_region (by kernel_rfl) ?_; refine vl_n ?_; refine H_of_R (R_assign (v := (.bool false)) rfl ?_)
  refine vl_e ?_; refine WPc_seq' ?_; refine W_region (by kernel_rfl) ?_; refine vl_n ?_; refine H_call HB_38 H fun t1 h H => ?_; refine vl_n ?_; refine H_call HB_39 H fun t2 h H => ?_; refine vl_n ?_; refine H_of_R (R_slice TE_25 (by decide) H fun t3 H => ?_)
  refine vl_n ?_; refine H_call HB_13 H fun t4 h H => ?_; refine vl_n ?_; refine H_of_R (R_len Try.underlying25 H fun t5 H => ?_)
  refine vl_n ?_; refine H_of_R (R_eqI H fun t6 H => ?_)
  refine vl_n ?_; refine H_of_R (R_assign (v := t6) rfl ?_)
  refine vl_e ?_; refine WPc_ret ?_; refine resH_of rfl ?_; exact H
/-! ### laws.byKeys -/
def l_byKeys.sh (a0 : Value) (h : Heap) (Q : Value → Heap → Prop) : Prop := alloc [(.slice none 0 0), (.int .i64 0), (.bool false)] 34 h fun t2 h => buildV [(.slice none 0 0), (.int .i64 0), (.bool false)] [(1, 1, a0), (2, 1, (.bool true))] fun t4 => storeN 3 t2 t4 h fun h => loadN 3 t2 h fun r2 => Q r2 h
theorem l_byKeys.body (a0 : Value) (h : Heap) (Q : Value → Heap → Prop) (H : l_byKeys.sh a0 h Q) : l_byKeys.call #[a0] h Q := by
  refine callsH_of (args := [a0]) Try.func14 rfl rfl ?_; unfold l_byKeys.sh at H; refine WPc_seq' ?_; refine W_region (by kernel_rfl) ?_; refine vl_n ?_; refine H_alloc TV_34 H fun t2 h H => ?_; refine vl_e ?_; refine WPc_seq' ?_; refine W_region (by kernel_rfl) ?_; refine vl_n ?_; refine H_of_R (R_move (v := a0) rfl ?_)
  refine vl_n ?_; refine H_of_R (R_build TB_34 rfl (by decide) H fun t4 H => ?_)
  refine vl_n ?_; refine H_storeN TS_34 H fun h H => ?_; refine vl_e ?_; refine WPc_ret ?_; refine resH_of rfl ?_; refine resL_N TN_34 ?_; refine loadN_imp H fun r2 H => ?_; exact H
end Go.Proofs.Ythpmeccnddchpaa
end
section
namespace Go.Proofs.Ythpmeccnddchpaa
open Go.Hp
set_option maxRecDepth 100000
set_option maxHeartbeats 8000000
/-! ### (*pub/tidwallbtree.BTreeG[impl.Item]).deleteHint -/
def BTreeG_I_deleteHint.j4 (s6 s8 : Value) (h : Heap) (Q : Value → Heap → Prop) : Prop := loadN 2 s8 h fun t81 => storeN 2 s6 t81 h fun h => loadN 2 s6 h fun r6 => Q (.tuple #[r6, (.bool true)]) h
def BTreeG_I_deleteHint.j3 (s0 s6 s8 : Value) (h : Heap) (Q : Value → Heap → Prop) : Prop := nilck s0 fun t67 => fld 3 t67 fun t68 => load1 t68 h fun t69 => arith (· - ·) t69 (.int .i64 1) fun t70 => nilck s0 fun t71 => fld 3 t71 fun t72 => store1 t72 t70 h fun h => nilck s0 fun t74 => fld 3 t74 fun t75 => load1 t75 h fun t76 => cmpI (fun a b => a == b) t76 (.int .i64 0) fun t77 => ifV t77 (nilck s0 fun t79 => fld 2 t79 fun t80 => store1 t80 (.pointer none) h fun h => BTreeG_I_deleteHint.j4 s6 s8 h Q) (BTreeG_I_deleteHint.j4 s6 s8 h Q)
def BTreeG_I_deleteHint.j2 (s0 s6 s8 : Value) (h : Heap) (Q : Value → Heap → Prop) : Prop := nilck s0 fun t36 => fld 2 t36 fun t37 => load1 t37 h fun t38 => nilck t38 fun t39 => fld 2 t39 fun t40 => load1 t40 h fun t41 => lenV t41 fun t42 => cmpI (fun a b => a == b) t42 (.int .i64 0) fun t43 => br t43 true (nilck s0 fun t46 => fld 2 t46 fun t47 => load1 t47 h fun t48 => node_I_leaf.call #[t48] h fun t49 h => notV t49 fun t50 => ifV t50 (nilck s0 fun t54 => fld 2 t54 fun t55 => load1 t55 h fun t56 => nilck t56 fun t57 => fld 3 t57 fun t58 => load1 t58 h fun t59 => nilck t59 fun t60 => load1 t60 h fun t61 => idx 1 t61 (.int .i64 0) fun t62 => load1 t62 h fun t63 => nilck s0 fun t64 => fld 2 t64 fun t65 => store1 t65 t63 h fun h => BTreeG_I_deleteHint.j3 s0 s6 s8 h Q) (BTreeG_I_deleteHint.j3 s0 s6 s8 h Q)) (BTreeG_I_deleteHint.j3 s0 s6 s8 h Q)
def BTreeG_I_deleteHint.j7 (s6 s8 : Value) (h : Heap) (Q : Value → Heap → Prop) : Prop := loadN 2 s8 h fun t81 => storeN 2 s6 t81 h fun h => loadN 2 s6 h fun r6 => Q (.tuple #[r6, (.bool true)]) h
def BTreeG_I_deleteHint.j6 (s0 s6 s8 : Value) (h : Heap) (Q : Value → Heap → Prop) : Prop := nilck s0 fun t67 => fld 3 t67 fun t68 => load1 t68 h fun t69 => arith (· - ·) t69 (.int .i64 1) fun t70 => nilck s0 fun t71 => fld 3 t71 fun t72 => store1 t72 t70 h fun h => nilck s0 fun t74 => fld 3 t74 fun t75 => load1 t75 h fun t76 => cmpI (fun a b => a == b) t76 (.int .i64 0) fun t77 => ifV t77 (nilck s0 fun t79 => fld 2 t79 fun t80 => store1 t80 (.pointer none) h fun h => BTreeG_I_deleteHint.j7 s6 s8 h Q) (BTreeG_I_deleteHint.j7 s6 s8 h Q)
def BTreeG_I_deleteHint.j5 (s0 s6 s8 : Value) (h : Heap) (Q : Value → Heap → Prop) : Prop := nilck s0 fun t36 => fld 2 t36 fun t37 => load1 t37 h fun t38 => nilck t38 fun t39 => fld 2 t39 fun t40 => load1 t40 h fun t41 => lenV t41 fun t42 => cmpI (fun a b => a == b) t42 (.int .i64 0) fun t43 => br t43 true (nilck s0 fun t46 => fld 2 t46 fun t47 => load1 t47 h fun t48 => node_I_leaf.call #[t48] h fun t49 h => notV t49 fun t50 => ifV t50 (nilck s0 fun t54 => fld 2 t54 fun t55 => load1 t55 h fun t56 => nilck t56 fun t57 => fld 3 t57 fun t58 => load1 t58 h fun t59 => nilck t59 fun t60 => load1 t60 h fun t61 => idx 1 t61 (.int .i64 0) fun t62 => load1 t62 h fun t63 => nilck s0 fun t64 => fld 2 t64 fun t65 => store1 t65 t63 h fun h => BTreeG_I_deleteHint.j6 s0 s6 s8 h Q) (BTreeG_I_deleteHint.j6 s0 s6 s8 h Q)) (BTreeG_I_deleteHint.j6 s0 s6 s8 h Q)
def BTreeG_I_deleteHint.j1 (s0 s2 s4 s6 : Value) (h : Heap) (Q : Value → Heap → Prop) : Prop := nilck s0 fun t22 => fld 2 t22 fun t23 => loadN 2 s4 h fun t24 => (BTreeG_I_delete.call #[s0, t23, (.bool false), t24, s2, (.int .i64 0)] h fun t26 h => extr 0 t26 fun t27 => extr 1 t26 fun t28 => alloc [(.int .i64 0), (.int .i64 0)] 30 h fun t8 h => storeN 2 t8 t27 h fun h => notV t28 fun t30 => ifV t30 (nilck s0 fun t32 => fld 7 t32 fun t33 => loadN 2 t33 h fun t34 => storeN 2 s6 t34 h fun h => loadN 2 s6 h fun r6 => Q (.tuple #[r6, (.bool false)]) h) (BTreeG_I_deleteHint.j2 s0 s6 t8 h Q)) ∧ (alloc [(.int .i64 0), (.int .i64 0)] 30 h fun t8_2 h => stillN 2 s4 t24 h ∧ BTreeG_I_delete.call #[s0, t23, (.bool false), t24, s2, (.int .i64 0)] h fun t26_2 h => extr 0 t26_2 fun t27_2 => extr 1 t26_2 fun t28_2 => storeN 2 t8_2 t27_2 h fun h => notV t28_2 fun t30_2 => ifV t30_2 (nilck s0 fun t32_2 => fld 7 t32_2 fun t33_2 => loadN 2 t33_2 h fun t34_2 => storeN 2 s6 t34_2 h fun h => loadN 2 s6 h fun r6_2 => Q (.tuple #[r6_2, (.bool false)]) h) (BTreeG_I_deleteHint.j5 s0 s6 t8_2 h Q))
def BTreeG_I_deleteHint.sh (a0 a1 a2 : Value) (h : Heap) (Q : Value → Heap → Prop) : Prop := box 30 a1 h fun t4 h => alloc [(.int .i64 0), (.int .i64 0)] 30 h fun t6 h => nilck a0 fun t11 => fld 2 t11 fun t12 => load1 t12 h fun t13 => eqNilP t13 fun t14 => ifV t14 (nilck a0 fun t16 => fld 7 t16 fun t17 => loadN 2 t17 h fun t18 => storeN 2 t6 t18 h fun h => loadN 2 t6 h fun r6 => Q (.tuple #[r6, (.bool false)]) h) (BTreeG_I_deleteHint.j1 a0 a2 t4 t6 h Q)
theorem BTreeG_I_deleteHint.body (a0 a1 a2 : Value) (h : Heap) (Q : Value → Heap → Prop) (H : BTreeG_I_deleteHint.sh a0 a1 a2 h Q) : BTreeG_I_deleteHint.call #[a0, a1, a2] h Q := by
  refine callsH_of (args := [a0, a1, a2]) Try.func79 rfl rfl ?_; unfold BTreeG_I_deleteHint.sh at H; refine WPc_seq' ?_; refine W_region (by kernel_rfl) ?_; refine vl_n ?_; refine H_box H fun t4 h H => ?_; refine vl_n ?_; refine H_alloc TV_30 H fun t6 h H => ?_; refine vl_n ?_; refine H_of_R (R_assign (v := (.bool false)) rfl ?_)
  refine vl_e ?_; refine WPc_seq (fun e h => BTreeG_I_deleteHint.j1 (e 0) (e 2) (e 4) (e 6) h Q) ?_ (fun e h H => ?_)
  rotate_left
  · unfold BTreeG_I_deleteHint.j1 at H
    refine WPc_seq' ?_; refine W_drawn [0, 0, 2, 6, 0, 0, 63, 127, 255, 255, 0, 1535, 4095] (.take 0 (.take 1 (.take 2 (.take 3 (.take 4 (.take 5 (.alt 6 (.take 7 (.take 8 (.take 9 (.alt 10 (.alt 11 (.take 12 .done) .none) .none)))) (.alt 10 (.alt 6 (.take 7 (.take 8 (.take 9 (.alt 11 (.take 12 .done) .none)))) .none) .none)))))))) mixed (by kernel_rfl) ?_; refine tkP rfl ?_; refine R_move (v := (e 0)) rfl ⟨fun _ => trivial, ?_⟩
    refine tkP rfl ?_; refine R_move (v := (e 0)) rfl ⟨fun _ => trivial, ?_⟩
    refine tkP rfl ?_; refine R_nil H fun t22 H => ⟨fun _ => trivial, ?_⟩
    refine tkP rfl ?_; refine R_fld TF_117_2 H fun t23 H => ⟨fun _ => trivial, ?_⟩
    refine tkL rfl ?_; refine R_loadN TN_30 H fun at24 xt24 hat24 _ H St24 hSt24 => ?_; refine tkP rfl ?_; refine R_move (v := (e 2)) rfl ⟨fun _ => trivial, ?_⟩
    obtain ⟨HA0, HA1⟩ := H; refine alt_n rfl ?_ ?_
    · have H := HA0; clear HA0 HA1
      refine H_call HB_85 H fun t26 h H => ⟨(hskip rfl hnil), ?_⟩
      refine tkP rfl ?_; refine R_move (v := t26) rfl ⟨fun _ => trivial, ?_⟩
      refine tkP rfl ?_; refine R_ext H fun t27 H => ⟨fun _ => trivial, ?_⟩
      refine tkP rfl ?_; refine R_ext H fun t28 H => ⟨fun _ => trivial, ?_⟩
      refine alt_n rfl ?_ vp_none
      refine H_alloc TV_30 H fun t8 h H => ⟨hnil, ?_⟩
      refine alt_n rfl ?_ vp_none
      refine H_storeN TS_30 H fun h H => ⟨hnil, ?_⟩
      refine tkP rfl ?_; refine R_assign (v := t28) rfl ⟨fun _ => trivial, ?_⟩
      refine vp_done ?_; refine WPc_seq (fun e h => BTreeG_I_deleteHint.j2 (e 0) (e 6) (e 8) h Q) ?_ (fun e h H => ?_)
      rotate_left
      · unfold BTreeG_I_deleteHint.j2 at H
        refine WPc_seq (fun e h => BTreeG_I_deleteHint.j3 (e 0) (e 6) (e 8) h Q) ?_ (fun e h H => ?_)
        rotate_left
        · unfold BTreeG_I_deleteHint.j3 at H
          refine WPc_seq' ?_; refine W_region (by kernel_rfl) ?_; refine vl_n ?_; refine H_of_R (R_move (v := (e 0)) rfl ?_)
          refine vl_n ?_; refine H_of_R (R_nil H fun t67 H => ?_)
          refine vl_n ?_; refine H_of_R (R_fld TF_117_3 H fun t68 H => ?_)
          refine vl_n ?_; refine H_of_R (R_load1 T1_3 H fun _ t69 _ _ H => ?_)
          refine vl_n ?_; refine H_of_R (R_sub H fun t70 H => ?_)
          refine vl_n ?_; refine H_of_R (R_nil H fun t71 H => ?_)
          refine vl_n ?_; refine H_of_R (R_fld TF_117_3 H fun t72 H => ?_)
          refine vl_n ?_; refine H_store1 TS_3 H fun h H => ?_; refine vl_e ?_; refine WPc_seq (fun e h => BTreeG_I_deleteHint.j4 (e 6) (e 8) h Q) ?_ (fun e h H => ?_)
          rotate_left
          · unfold BTreeG_I_deleteHint.j4 at H
            refine WPc_seq' ?_; refine W_region (by kernel_rfl) ?_; refine vl_n ?_; refine H_of_R (R_loadN TN_30 H fun _ t81 _ _ H _ _ => ?_)
            refine vl_n ?_; refine H_storeN TS_30 H fun h H => ?_; refine vl_n ?_; refine H_of_R (R_assign (v := (.bool true)) rfl ?_)
            refine vl_e ?_; refine WPc_ret ?_; refine resH_of rfl ?_; refine resL_N TN_30 ?_; refine loadN_imp H fun r6 H => ?_; refine resL_t ?_; exact H
          refine WPc_seq' ?_; refine W_region (by kernel_rfl) ?_; refine vl_n ?_; refine H_of_R (R_move (v := (e 0)) rfl ?_)
          refine vl_n ?_; refine H_of_R (R_nil H fun t74 H => ?_)
          refine vl_n ?_; refine H_of_R (R_fld TF_117_3 H fun t75 H => ?_)
          refine vl_n ?_; refine H_of_R (R_load1 T1_3 H fun _ t76 _ _ H => ?_)
          refine vl_n ?_; refine H_of_R (R_eqI H fun t77 H => ?_)
          refine vl_e ?_; obtain ⟨b, hc, H1, H2⟩ := H; refine WPc_cond hc (fun hh => ?_) (fun hh => ?_)
          · have H := H1 hh; clear H1 H2
            refine W_region (by kernel_rfl) ?_; refine vl_n ?_; refine H_of_R (R_move (v := (e 0)) rfl ?_)
            refine vl_n ?_; refine H_of_R (R_nil H fun t79 H => ?_)
            refine vl_n ?_; refine H_of_R (R_fld TF_117_2 H fun t80 H => ?_)
            refine vl_n ?_; refine H_store1 TS_115 H fun h H => ?_; refine vl_e ?_; exact H
          · have H := H2 hh; clear H1 H2
            refine WPc_skip ?_; exact H
        refine WPc_seq' ?_; refine W_region (by kernel_rfl) ?_; refine vl_n ?_; refine H_of_R (R_move (v := (e 0)) rfl ?_)
        refine vl_n ?_; refine H_of_R (R_nil H fun t36 H => ?_)
        refine vl_n ?_; refine H_of_R (R_fld TF_117_2 H fun t37 H => ?_)
        refine vl_n ?_; refine H_of_R (R_load1 T1_115 H fun _ t38 _ _ H => ?_)
        refine vl_n ?_; refine H_of_R (R_nil H fun t39 H => ?_)
        refine vl_n ?_; refine H_of_R (R_fld TF_129_2 H fun t40 H => ?_)
        refine vl_n ?_; refine H_of_R (R_load1 T1_25 H fun _ t41 _ _ H => ?_)
        refine vl_n ?_; refine H_of_R (R_len Try.underlying25 H fun t42 H => ?_)
        refine vl_n ?_; refine H_of_R (R_eqI H fun t43 H => ?_)
        refine vl_n ?_; refine H_of_R (R_move (v := t43) rfl ?_)
        obtain ⟨b, hb, H1, H2⟩ := H
        cases b
        · have H := H2 rfl; clear H1 H2
          refine vl_s rfl (nbT hb) ?_; refine vl_s rfl (nbT hb) ?_; refine vl_s rfl (nbT hb) ?_; refine vl_s rfl (nbT hb) ?_; refine vl_s rfl (nbT hb) ?_; refine vl_s rfl (nbT hb) ?_; refine vl_n ?_; refine H_of_R (R_pickC (v := (.bool false)) false hb rfl ?_)
          refine vl_e ?_; refine WPc_cond (t := false) rfl (fun hh => by cases hh) (fun _ => ?_)
          refine WPc_skip ?_; exact H
        · have H := H1 rfl; clear H1 H2
          refine vl_y rfl hb ?_; refine H_of_R (R_move (v := (e 0)) rfl ?_)
          refine vl_y rfl hb ?_; refine H_of_R (R_nil H fun t46 H => ?_)
          refine vl_y rfl hb ?_; refine H_of_R (R_fld TF_117_2 H fun t47 H => ?_)
          refine vl_y rfl hb ?_; refine H_of_R (R_load1 T1_115 H fun _ t48 _ _ H => ?_)
          refine vl_y rfl hb ?_; refine H_call HB_78 H fun t49 h H => ?_; refine vl_y rfl hb ?_; refine H_of_R (R_not H fun t50 H => ?_)
          refine vl_n ?_; refine H_of_R (R_pickC (v := t50) true hb rfl ?_)
          refine vl_e ?_; obtain ⟨b_2, hc, H1, H2⟩ := H; refine WPc_cond hc (fun hh => ?_) (fun hh => ?_)
          · have H := H1 hh; clear H1 H2
            refine W_region (by kernel_rfl) ?_; refine vl_n ?_; refine H_of_R (R_move (v := (e 0)) rfl ?_)
            refine vl_n ?_; refine H_of_R (R_move (v := (e 0)) rfl ?_)
            refine vl_n ?_; refine H_of_R (R_nil H fun t54 H => ?_)
            refine vl_n ?_; refine H_of_R (R_fld TF_117_2 H fun t55 H => ?_)
            refine vl_n ?_; refine H_of_R (R_load1 T1_115 H fun _ t56 _ _ H => ?_)
            refine vl_n ?_; refine H_of_R (R_nil H fun t57 H => ?_)
            refine vl_n ?_; refine H_of_R (R_fld TF_129_3 H fun t58 H => ?_)
            refine vl_n ?_; refine H_of_R (R_load1 T1_127 H fun _ t59 _ _ H => ?_)
            refine vl_n ?_; refine H_of_R (R_nil H fun t60 H => ?_)
            refine vl_n ?_; refine H_of_R (R_load1 T1_130 H fun _ t61 _ _ H => ?_)
            refine vl_n ?_; refine H_of_R (R_idx TE_130 H fun t62 H => ?_)
            refine vl_n ?_; refine H_of_R (R_load1 T1_115 H fun _ t63 _ _ H => ?_)
            refine vl_n ?_; refine H_of_R (R_nil H fun t64 H => ?_)
            refine vl_n ?_; refine H_of_R (R_fld TF_117_2 H fun t65 H => ?_)
            refine vl_n ?_; refine H_store1 TS_115 H fun h H => ?_; refine vl_e ?_; exact H
          · have H := H2 hh; clear H1 H2
            refine WPc_skip ?_; exact H
      refine WPc_seq' ?_; refine W_region (by kernel_rfl) ?_; refine vl_n ?_; refine H_of_R (R_move (v := t28) rfl ?_)
      refine vl_n ?_; refine H_of_R (R_not H fun t30 H => ?_)
      refine vl_e ?_; obtain ⟨b, hc, H1, H2⟩ := H; refine WPc_cond hc (fun hh => ?_) (fun hh => ?_)
      · have H := H1 hh; clear H1 H2
        refine WPc_seq' ?_; refine W_region (by kernel_rfl) ?_; refine vl_n ?_; refine H_of_R (R_move (v := (e 0)) rfl ?_)
        refine vl_n ?_; refine H_of_R (R_nil H fun t32 H => ?_)
        refine vl_n ?_; refine H_of_R (R_fld TF_117_7 H fun t33 H => ?_)
        refine vl_n ?_; refine H_of_R (R_loadN TN_30 H fun _ t34 _ _ H _ _ => ?_)
        refine vl_n ?_; refine H_storeN TS_30 H fun h H => ?_; refine vl_n ?_; refine H_of_R (R_assign (v := (.bool false)) rfl ?_)
        refine vl_e ?_; refine WPc_ret ?_; refine resH_of rfl ?_; refine resL_N TN_30 ?_; refine loadN_imp H fun r6 H => ?_; refine resL_t ?_; exact H
      · have H := H2 hh; clear H1 H2
        refine WPc_skip ?_; exact H
    refine alt_n rfl ?_ vp_none
    have H := HA1; clear HA0 HA1
    refine H_alloc TV_30 H fun t8_2 h ⟨S, H⟩ => ⟨(hcons rfl (hSt24 _ (still_N S hat24 rfl)) hnil), ?_⟩
    refine alt_n rfl ?_ vp_none
    refine H_call HB_85 H fun t26_2 h H => ⟨(hskip rfl hnil), ?_⟩
    refine tkP rfl ?_; refine R_move (v := t26_2) rfl ⟨fun _ => trivial, ?_⟩
    refine tkP rfl ?_; refine R_ext H fun t27_2 H => ⟨fun _ => trivial, ?_⟩
    refine tkP rfl ?_; refine R_ext H fun t28_2 H => ⟨fun _ => trivial, ?_⟩
    refine alt_n rfl ?_ vp_none
    refine H_storeN TS_30 H fun h H => ⟨hnil, ?_⟩
    refine tkP rfl ?_; refine R_assign (v := t28_2) rfl ⟨fun _ => trivial, ?_⟩
    refine vp_done ?_; refine WPc_seq (fun e h => BTreeG_I_deleteHint.j5 (e 0) (e 6) (e 8) h Q) ?_ (fun e h H => ?_)
    rotate_left
    · unfold BTreeG_I_deleteHint.j5 at H
      refine WPc_seq (fun e h => BTreeG_I_deleteHint.j6 (e 0) (e 6) (e 8) h Q) ?_ (fun e h H => ?_)
      rotate_left
      · unfold BTreeG_I_deleteHint.j6 at H
        refine WPc_seq' ?_; refine W_region (by kernel_rfl) ?_; refine vl_n ?_; refine H_of_R (R_move (v := (e 0)) rfl ?_)
        refine vl_n ?_; refine H_of_R (R_nil H fun t67 H => ?_)
        refine vl_n ?_; refine H_of_R (R_fld TF_117_3 H fun t68 H => ?_)
        refine vl_n ?_; refine H_of_R (R_load1 T1_3 H fun _ t69 _ _ H => ?_)
        refine vl_n ?_; refine H_of_R (R_sub H fun t70 H => ?_)
        refine vl_n ?_; refine H_of_R (R_nil H fun t71 H => ?_)
        refine vl_n ?_; refine H_of_R (R_fld TF_117_3 H fun t72 H => ?_)
        refine vl_n ?_; refine H_store1 TS_3 H fun h H => ?_; refine vl_e ?_; refine WPc_seq (fun e h => BTreeG_I_deleteHint.j7 (e 6) (e 8) h Q) ?_ (fun e h H => ?_)
        rotate_left
        · unfold BTreeG_I_deleteHint.j7 at H
          refine WPc_seq' ?_; refine W_region (by kernel_rfl) ?_; refine vl_n ?_; refine H_of_R (R_loadN TN_30 H fun _ t81 _ _ H _ _ => ?_)
          refine vl_n ?_; refine H_storeN TS_30 H fun h H => ?_; refine vl_n ?_; refine H_of_R (R_assign (v := (.bool true)) rfl ?_)
          refine vl_e ?_; refine WPc_ret ?_; refine resH_of rfl ?_; refine resL_N TN_30 ?_; refine loadN_imp H fun r6 H => ?_; refine resL_t ?_; exact H
        refine WPc_seq' ?_; refine W_region (by kernel_rfl) ?_; refine vl_n ?_; refine H_of_R (R_move (v := (e 0)) rfl ?_)
        refine vl_n ?_; refine H_of_R (R_nil H fun t74 H => ?_)
        refine vl_n ?_; refine H_of_R (R_fld TF_117_3 H fun t75 H => ?_)
        refine vl_n ?_; refine H_of_R (R_load1 T1_3 H fun _ t76 _ _ H => ?_)
        refine vl_n ?_; refine H_of_R (R_eqI H fun t77 H => ?_)
        refine vl_e ?_; obtain ⟨b, hc, H1, H2⟩ := H; refine WPc_cond hc (fun hh => ?_) (fun hh => ?_)
        · have H := H1 hh; clear H1 H2
          refine W_region (by kernel_rfl) ?_; refine vl_n ?_; refine H_of_R (R_move (v := (e 0)) rfl ?_)
          refine vl_n ?_; refine H_of_R (R_nil H fun t79 H => ?_)
          refine vl_n ?_; refine H_of_R (R_fld TF_117_2 H fun t80 H => ?_)
          refine vl_n ?_; refine H_store1 TS_115 H fun h H => ?_; refine vl_e ?_; exact H
        · have H := H2 hh; clear H1 H2
          refine WPc_skip ?_; exact H
      refine WPc_seq' ?_; refine W_region (by kernel_rfl) ?_; refine vl_n ?_; refine H_of_R (R_move (v := (e 0)) rfl ?_)
      refine vl_n ?_; refine H_of_R (R_nil H fun t36 H => ?_)
      refine vl_n ?_; refine H_of_R (R_fld TF_117_2 H fun t37 H => ?_)
      refine vl_n ?_; refine H_of_R (R_load1 T1_115 H fun _ t38 _ _ H => ?_)
      refine vl_n ?_; refine H_of_R (R_nil H fun t39 H => ?_)
      refine vl_n ?_; refine H_of_R (R_fld TF_129_2 H fun t40 H => ?_)
      refine vl_n ?_; refine H_of_R (R_load1 T1_25 H fun _ t41 _ _ H => ?_)
      refine vl_n ?_; refine H_of_R (R_len Try.underlying25 H fun t42 H => ?_)
      refine vl_n ?_; refine H_of_R (R_eqI H fun t43 H => ?_)
      refine vl_n ?_; refine H_of_R (R_move (v := t43) rfl ?_)
      obtain ⟨b, hb, H1, H2⟩ := H
      cases b
      · have H := H2 rfl; clear H1 H2
        refine vl_s rfl (nbT hb) ?_; refine vl_s rfl (nbT hb) ?_; refine vl_s rfl (nbT hb) ?_; refine vl_s rfl (nbT hb) ?_; refine vl_s rfl (nbT hb) ?_; refine vl_s rfl (nbT hb) ?_; refine vl_n ?_; refine H_of_R (R_pickC (v := (.bool false)) false hb rfl ?_)
        refine vl_e ?_; refine WPc_cond (t := false) rfl (fun hh => by cases hh) (fun _ => ?_)
        refine WPc_skip ?_; exact H
      · have H := H1 rfl; clear H1 H2
        refine vl_y rfl hb ?_; refine H_of_R (R_move (v := (e 0)) rfl ?_)
        refine vl_y rfl hb ?_; refine H_of_R (R_nil H fun t46 H => ?_)
        refine vl_y rfl hb ?_; refine H_of_R (R_fld TF_117_2 H fun t47 H => ?_)
        refine vl_y rfl hb ?_; refine H_of_R (R_load1 T1_115 H fun _ t48 _ _ H => ?_)
        refine vl_y rfl hb ?_; refine H_call HB_78 H fun t49 h H => ?_; refine vl_y rfl hb ?_; refine H_of_R (R_not H fun t50 H => ?_)
        refine vl_n ?_; refine H_of_R (R_pickC (v := t50) true hb rfl ?_)
        refine vl_e ?_; obtain ⟨b_2, hc, H1, H2⟩ := H; refine WPc_cond hc (fun hh => ?_) (fun hh => ?_)
        · have H := H1 hh; clear H1 H2
          refine W_region (by kernel_rfl) ?_; refine vl_n ?_; refine H_of_R (R_move (v := (e 0)) rfl ?_)
          refine vl_n ?_; refine H_of_R (R_move (v := (e 0)) rfl ?_)
          refine vl_n ?_; refine H_of_R (R_nil H fun t54 H => ?_)
          refine vl_n ?_; refine H_of_R (R_fld TF_117_2 H fun t55 H => ?_)
          refine vl_n ?_; refine H_of_R (R_load1 T1_115 H fun _ t56 _ _ H => ?_)
          refine vl_n ?_; refine H_of_R (R_nil H fun t57 H => ?_)
          refine vl_n ?_; refine H_of_R (R_fld TF_129_3 H fun t58 H => ?_)
          refine vl_n ?_; refine H_of_R (R_load1 T1_127 H fun _ t59 _ _ H => ?_)
          refine vl_n ?_; refine H_of_R (R_nil H fun t60 H => ?_)
          refine vl_n ?_; refine H_of_R (R_load1 T1_130 H fun _ t61 _ _ H => ?_)
          refine vl_n ?_; refine H_of_R (R_idx TE_130 H fun t62 H => ?_)
          refine vl_n ?_; refine H_of_R (R_load1 T1_115 H fun _ t63 _ _ H => ?_)
          refine vl_n ?_; refine H_of_R (R_nil H fun t64 H => ?_)
          refine vl_n ?_; refine H_of_R (R_fld TF_117_2 H fun t65 H => ?_)
          refine vl_n ?_; refine H_store1 TS_115 H fun h H => ?_; refine vl_e ?_; exact H
        · have H := H2 hh; clear H1 H2
          refine WPc_skip ?_; exact H
    refine WPc_seq' ?_; refine W_region (by kernel_rfl) ?_; refine vl_n ?_; refine H_of_R (R_move (v := t28_2) rfl ?_)
    refine vl_n ?_; refine H_of_R (R_not H fun t30_2 H => ?_)
    refine vl_e ?_; obtain ⟨b_2, hc_2, H1, H2⟩ := H; refine WPc_cond hc_2 (fun hh => ?_) (fun hh => ?_)
    · have H := H1 hh; clear H1 H2
      refine WPc_seq' ?_; refine W_region (by kernel_rfl) ?_; refine vl_n ?_; refine H_of_R (R_move (v := (e 0)) rfl ?_)
      refine vl_n ?_; refine H_of_R (R_nil H fun t32_2 H => ?_)
      refine vl_n ?_; refine H_of_R (R_fld TF_117_7 H fun t33_2 H => ?_)
      refine vl_n ?_; refine H_of_R (R_loadN TN_30 H fun _ t34_2 _ _ H _ _ => ?_)
      refine vl_n ?_; refine H_storeN TS_30 H fun h H => ?_; refine vl_n ?_; refine H_of_R (R_assign (v := (.bool false)) rfl ?_)
      refine vl_e ?_; refine WPc_ret ?_; refine resH_of rfl ?_; refine resL_N TN_30 ?_; refine loadN_imp H fun r6_2 H => ?_; refine resL_t ?_; exact H
    · have H := H2 hh; clear H1 H2
      refine WPc_skip ?_; exact H
  refine WPc_seq' ?_; refine W_region (by kernel_rfl) ?_; refine vl_n ?_; refine H_of_R (R_move (v := a0) rfl ?_)
  refine vl_n ?_; refine H_of_R (R_nil H fun t11 H => ?_)
  refine vl_n ?_; refine H_of_R (R_fld TF_117_2 H fun t12 H => ?_)
  refine vl_n ?_; refine H_of_R (R_load1 T1_115 H fun _ t13 _ _ H => ?_)
  refine vl_n ?_; refine H_of_R (R_eqNilP Try.underlying115 rfl H fun t14 H => ?_)
  refine vl_e ?_; obtain ⟨b, hc, H1, H2⟩ := H; refine WPc_cond hc (fun hh => ?_) (fun hh => ?_)
  · have H := H1 hh; clear H1 H2
    refine WPc_seq' ?_; refine W_region (by kernel_rfl) ?_; refine vl_n ?_; refine H_of_R (R_move (v := a0) rfl ?_)
    refine vl_n ?_; refine H_of_R (R_nil H fun t16 H => ?_)
    refine vl_n ?_; refine H_of_R (R_fld TF_117_7 H fun t17 H => ?_)
    refine vl_n ?_; refine H_of_R (R_loadN TN_30 H fun _ t18 _ _ H _ _ => ?_)
    refine vl_n ?_; refine H_storeN TS_30 H fun h H => ?_; refine vl_n ?_; refine H_of_R (R_assign (v := (.bool false)) rfl ?_)
    refine vl_e ?_; refine WPc_ret ?_; refine resH_of rfl ?_; refine resL_N TN_30 ?_; refine loadN_imp H fun r6 H => ?_; refine resL_t ?_; exact H
  · have H := H2 hh; clear H1 H2
    refine WPc_skip ?_; exact H
/-! ### (*pub/tidwallbtree.BTreeG[impl.Item]).DeleteHint -/
def BTreeG_I_DeleteHint.j1 (s0 s2 s4 s6 : Value) (h : Heap) (Q : Value → Heap → Prop) : Prop := loadN 2 s4 h fun t12 => BTreeG_I_deleteHint.call #[s0, t12, s2] h fun t14 h => extr 0 t14 fun t15 => extr 1 t14 fun t16 => storeN 2 s6 t15 h fun h => loadN 2 s6 h fun r6 => Q (.tuple #[r6, t16]) h
def BTreeG_I_DeleteHint.sh (a0 a1 a2 : Value) (h : Heap) (Q : Value → Heap → Prop) : Prop := box 30 a1 h fun t4 h => alloc [(.int .i64 0), (.int .i64 0)] 30 h fun t6 h => BTreeG_I_lock.call #[a0, (.bool true)] h fun t9 h => ifV t9 (False) (BTreeG_I_DeleteHint.j1 a0 a2 t4 t6 h Q)
theorem BTreeG_I_DeleteHint.body (a0 a1 a2 : Value) (h : Heap) (Q : Value → Heap → Prop) (H : BTreeG_I_DeleteHint.sh a0 a1 a2 h Q) : BTreeG_I_DeleteHint.call #[a0, a1, a2] h Q := by
  refine callsH_of (args := [a0, a1, a2]) Try.func76 rfl rfl ?_; unfold BTreeG_I_DeleteHint.sh at H; refine WPc_seq' ?_; refine W_region (by kernel_rfl) ?_; refine vl_n ?_; refine H_box H fun t4 h H => ?_; refine vl_n ?_; refine H_alloc TV_30 H fun t6 h H => ?_; refine vl_n ?_; refine H_of_R (R_assign (v := (.bool false)) rfl ?_)
  refine vl_e ?_; refine WPc_seq (fun e h => BTreeG_I_DeleteHint.j1 (e 0) (e 2) (e 4) (e 6) h Q) ?_ (fun e h H => ?_)
  rotate_left
  · unfold BTreeG_I_DeleteHint.j1 at H
    refine WPc_seq' ?_; refine W_region (by kernel_rfl) ?_; refine vl_n ?_; refine H_of_R (R_move (v := (e 0)) rfl ?_)
    refine vl_n ?_; refine H_of_R (R_loadN TN_30 H fun _ t12 _ _ H _ _ => ?_)
    refine vl_n ?_; refine H_of_R (R_move (v := (e 2)) rfl ?_)
    refine vl_n ?_; refine H_call HB_79 H fun t14 h H => ?_; refine vl_n ?_; refine H_of_R (R_ext H fun t15 H => ?_)
    refine vl_n ?_; refine H_of_R (R_ext H fun t16 H => ?_)
    refine vl_n ?_; refine H_storeN TS_30 H fun h H => ?_; refine vl_n ?_; refine H_of_R (R_assign (v := t16) rfl ?_)
    refine vl_e ?_; refine WPc_ret ?_; refine resH_of rfl ?_; refine resL_N TN_30 ?_; refine loadN_imp H fun r6 H => ?_; refine resL_t ?_; exact H
  refine WPc_seq' ?_; refine W_region (by kernel_rfl) ?_; refine vl_n ?_; refine H_of_R (R_move (v := a0) rfl ?_)
  refine vl_n ?_; refine H_call HB_72 H fun t9 h H => ?_; refine vl_e ?_; obtain ⟨b, hc, H1, H2⟩ := H; refine WPc_cond hc (fun hh => ?_) (fun hh => ?_)
  · have H := H1 hh; clear H1 H2
    refine W_region (by kernel_rfl) ?_; refine vl_n ?_; refine H_of_R (R_move (v := a0) rfl ?_)
    refine vl_n ?_; exact H.elim
  · have H := H2 hh; clear H1 H2
    refine WPc_skip ?_; exact H
/-! ### (*pub/tidwallbtree.BTreeG[impl.Item]).Delete -/
def BTreeG_I_Delete.sh (a0 a1 : Value) (h : Heap) (Q : Value → Heap → Prop) : Prop := box 30 a1 h fun t3 h => alloc [(.int .i64 0), (.int .i64 0)] 30 h fun t4 h => loadN 2 t3 h fun t7 => BTreeG_I_DeleteHint.call #[a0, t7, (.pointer none)] h fun t8 h => extr 0 t8 fun t9 => extr 1 t8 fun t10 => storeN 2 t4 t9 h fun h => loadN 2 t4 h fun r4 => Q (.tuple #[r4, t10]) h
theorem BTreeG_I_Delete.body (a0 a1 : Value) (h : Heap) (Q : Value → Heap → Prop) (H : BTreeG_I_Delete.sh a0 a1 h Q) : BTreeG_I_Delete.call #[a0, a1] h Q := by
  refine callsH_of (args := [a0, a1]) Try.func59 rfl rfl ?_; unfold BTreeG_I_Delete.sh at H; refine WPc_seq' ?_; refine W_region (by kernel_rfl) ?_; refine vl_n ?_; refine H_box H fun t3 h H => ?_; refine vl_n ?_; refine H_alloc TV_30 H fun t4 h H => ?_; refine vl_n ?_; refine H_of_R (R_assign (v := (.bool false)) rfl ?_)
  refine vl_e ?_; refine WPc_seq' ?_; refine W_region (by kernel_rfl) ?_; refine vl_n ?_; refine H_of_R (R_move (v := a0) rfl ?_)
  refine vl_n ?_; refine H_of_R (R_loadN TN_30 H fun _ t7 _ _ H _ _ => ?_)
  refine vl_n ?_; refine H_call HB_76 H fun t8 h H => ?_; refine vl_n ?_; refine H_of_R (R_ext H fun t9 H => ?_)
  refine vl_n ?_; refine H_of_R (R_ext H fun t10 H => ?_)
  refine vl_n ?_; refine H_storeN TS_30 H fun h H => ?_; refine vl_n ?_; refine H_of_R (R_assign (v := t10) rfl ?_)
  refine vl_e ?_; refine WPc_ret ?_; refine resH_of rfl ?_; refine resL_N TN_30 ?_; refine loadN_imp H fun r4 H => ?_; refine resL_t ?_; exact H
/-! ### impl.GDelete -/
def i_GDelete.j1 (s8 s9 : Value) (h : Heap) (Q : Value → Heap → Prop) : Prop := BTreeG_I_Items.call #[s8] h fun t33 h => Q (.tuple #[s9, t33]) h
def i_GDelete.j4 (s8 s9 s15 s16 s17 : Value) (h : Heap) (K1 : List Value → Heap → Prop) (Q : Value → Heap → Prop) : Prop := arith (· + ·) s17 (.int .i64 1) fun t30 => K1 [s9, t30] h
def i_GDelete.j3 (s8 s9 s15 s16 s17 : Value) (h : Heap) (K1 : List Value → Heap → Prop) (Q : Value → Heap → Prop) : Prop := idx 2 s15 s17 fun t19 => loadN 2 t19 h fun t20 => alloc [(.int .i64 0), (.int .i64 0)] 30 h fun t11 h => storeN 2 t11 t20 h fun h => loadN 2 t11 h fun t23 => BTreeG_I_Delete.call #[s8, t23] h fun t24 h => extr 0 t24 fun t25 => extr 1 t24 fun t26 => i_found.call #[t25, t26] h fun t27 h => mkSl (if 1 * 3 = 0 then [] else zeros [(.int .i64 0), (.int .i64 0), (.bool false)] 1) 1 [(0 * 3, 3, t27)] 48 h fun t28 h => app 48 3 24 [(.int .i64 0), (.int .i64 0), (.bool false)] s9 t28 h fun t29 h => i_GDelete.j4 s8 t29 s15 s16 s17 h K1 Q
def i_GDelete.l2.b (c8 c15 c16 s9 s17 : Value) (h : Heap) (K1 : List Value → Heap → Prop) (Q : Value → Heap → Prop) : Prop := cmpI (fun a b => decide (a < b)) s17 c16 fun t18 => ifV t18 (i_GDelete.j3 c8 s9 c15 c16 s17 h K1 Q) (i_GDelete.j1 c8 s9 h Q)
def i_GDelete.sh (a0 a1 a2 : Value) (h : Heap) (Q : Value → Heap → Prop) : Prop := box 34 a0 h fun t3 h => loadN 3 t3 h fun t12 => i_grow.call #[t12, a1] h fun t14 h => lenV a2 fun t16 => loopC (fun c s h K1 => i_GDelete.l2.b (c.getD 0 undef) (c.getD 1 undef) (c.getD 2 undef) (s.getD 0 undef) (s.getD 1 undef) h K1 Q) [t14, a2, t16] [(.slice none 0 0), (.int .i64 0)] h
theorem i_GDelete.body (a0 a1 a2 : Value) (h : Heap) (Q : Value → Heap → Prop) (H : i_GDelete.sh a0 a1 a2 h Q) : i_GDelete.call #[a0, a1, a2] h Q := by
  refine callsH_of (args := [a0, a1, a2]) Try.func45 rfl rfl ?_; unfold i_GDelete.sh at H; refine WPc_seq' ?_; refine W_region (by kernel_rfl) ?_; refine vl_n ?_; refine H_box H fun t3 h H => ?_; refine vl_n ?_; refine H_of_R (R_assign (v := (.slice none 0 0)) rfl ?_)
  refine vl_n ?_; refine H_of_R (R_assign (v := (.slice none 0 0)) rfl ?_)
  refine vl_e ?_; refine WPc_seq' ?_; refine W_region (by kernel_rfl) ?_; refine vl_n ?_; refine H_of_R (R_loadN TN_34 H fun _ t12 _ _ H _ _ => ?_)
  refine vl_n ?_; refine H_of_R (R_move (v := a1) rfl ?_)
  refine vl_n ?_; refine H_call HB_40 H fun t14 h H => ?_; refine vl_n ?_; refine H_of_R (R_assign (v := t14) rfl ?_)
  refine vl_e ?_; refine WPc_seq' ?_; refine W_region (by kernel_rfl) ?_; refine vl_n ?_; refine H_of_R (R_assign (v := (.slice none 0 0)) rfl ?_)
  refine vl_e ?_; refine WPc_seq (fun e h => i_GDelete.j1 (e 8) (e 9) h Q) ?_ (fun e h H => ?_)
  rotate_left
  · unfold i_GDelete.j1 at H
    refine WPc_seq' ?_; refine W_region (by kernel_rfl) ?_; refine vl_n ?_; refine H_of_R (R_move (v := (e 9)) rfl ?_)
    refine vl_n ?_; refine H_of_R (R_move (v := (e 8)) rfl ?_)
    refine vl_n ?_; refine H_call HB_41 H fun t33 h H => ?_; refine vl_n ?_; refine H_of_R (R_assign (v := (e 9)) rfl ?_)
    refine vl_n ?_; refine H_of_R (R_assign (v := t33) rfl ?_)
    refine vl_e ?_; refine WPc_ret ?_; refine resH_of rfl ?_; exact H
  refine WPc_seq' ?_; refine W_region (by kernel_rfl) ?_; refine vl_n ?_; refine H_of_R (R_move (v := a2) rfl ?_)
  refine vl_n ?_; refine H_of_R (R_len Try.underlying25 H fun t16 H => ?_)
  refine vl_n ?_; refine H_of_R (R_move (v := (.int .i64 0)) rfl ?_)
  refine vl_e ?_; refine WPc_block ?_; refine loop_at (fun e => [e 9, e 17]) (fun e => [e 8, e 15, e 16]) H rfl rfl ?_; intro K1 e1 h H hin1
  replace H : i_GDelete.l2.b (e1 8) (e1 15) (e1 16) (e1 9) (e1 17) h K1 Q := H
  unfold i_GDelete.l2.b at H; clear hin1; refine WPc_seq' ?_; refine W_region (by kernel_rfl) ?_; refine vl_n ?_; refine H_of_R (R_lss H fun t18 H => ?_)
  refine vl_e ?_; refine WPc_seq (fun e h => i_GDelete.j3 (e 8) (e 9) (e 15) (e 16) (e 17) h K1 Q ∧ [e1 8, e1 15, e1 16] = [e 8, e 15, e 16]) ?_ (fun e h ⟨H, hq1⟩ => ?_)
  rotate_left
  · unfold i_GDelete.j3 at H
    refine WPc_seq (fun e h => i_GDelete.j4 (e 8) (e 9) (e 15) (e 16) (e 17) h K1 Q ∧ [e1 8, e1 15, e1 16] = [e 8, e 15, e 16]) ?_ (fun e h ⟨H, hq1⟩ => ?_)
    rotate_left
    · unfold i_GDelete.j4 at H
      refine W_region (by kernel_rfl) ?_; refine vl_n ?_; refine H_of_R (R_add H fun t30 H => ?_)
      refine vl_n ?_; refine H_of_R (R_move (v := t30) rfl ?_)
      refine vl_e ?_; exact ⟨H, hq1⟩
    refine WPc_block ?_; refine WPc_seq' ?_; refine W_region (by kernel_rfl) ?_; refine vl_n ?_; refine H_of_R (R_idx TE_25 H fun t19 H => ?_)
    refine vl_n ?_; refine H_of_R (R_loadN TN_30 H fun _ t20 _ _ H _ _ => ?_)
    refine vl_n ?_; refine H_alloc TV_30 H fun t11 h H => ?_; refine vl_n ?_; refine H_storeN TS_30 H fun h H => ?_; refine vl_e ?_; refine W_region (by kernel_rfl) ?_; refine vl_n ?_; refine H_of_R (R_move (v := (e 9)) rfl ?_)
    refine vl_n ?_; refine H_of_R (R_move (v := (e 8)) rfl ?_)
    refine vl_n ?_; refine H_of_R (R_loadN TN_30 H fun _ t23 _ _ H _ _ => ?_)
    refine vl_n ?_; refine H_call HB_59 H fun t24 h H => ?_; refine vl_n ?_; refine H_of_R (R_ext H fun t25 H => ?_)
    refine vl_n ?_; refine H_of_R (R_ext H fun t26 H => ?_)
    refine vl_n ?_; refine H_call HB_47 H fun t27 h H => ?_; refine vl_n ?_; refine H_mkSl TZ_53 (by decide) rfl H rfl fun t28 h H => ?_; refine vl_n ?_; refine H_app TZ_53 TU_53 H fun t29 h H => ?_; refine vl_n ?_; refine H_of_R (R_assign (v := t29) rfl ?_)
    refine vl_e ?_; exact ⟨H, hq1⟩
  obtain ⟨b, hc, H1, H2⟩ := H; refine WPc_cond hc (fun hh => ?_) (fun hh => ?_)
  · have H := H1 hh; clear H1 H2
    refine WPc_skip ?_; exact ⟨H, rfl⟩
  · have H := H2 hh; clear H1 H2
    refine WPc_exit ?_; exact H
/-! ### laws.without -/
def l_without.sh (a0 a1 a2 : Value) (h : Heap) (Q : Value → Heap → Prop) : Prop := box 34 a0 h fun t3 h => loadN 3 t3 h fun t10 => buildV [(.int .i64 0), (.int .i64 0)] [(0, 1, a2)] fun t13 => mkSl (if 1 * 2 = 0 then [] else zeros [(.int .i64 0), (.int .i64 0)] 1) 1 [(0 * 2, 2, t13)] 30 h fun t14 h => i_GDelete.call #[t10, a1, t14] h fun t15 h => extr 0 t15 fun t16 => extr 1 t15 fun t17 => Q t17 h
theorem l_without.body (a0 a1 a2 : Value) (h : Heap) (Q : Value → Heap → Prop) (H : l_without.sh a0 a1 a2 h Q) : l_without.call #[a0, a1, a2] h Q := by
  refine callsH_of (args := [a0, a1, a2]) Try.func21 rfl rfl ?_; unfold l_without.sh at H; refine WPc_seq' ?_; refine W_region (by kernel_rfl) ?_; refine vl_n ?_; refine H_box H fun t3 h H => ?_; refine vl_n ?_; refine H_of_R (R_assign (v := (.slice none 0 0)) rfl ?_)
  refine vl_e ?_; refine WPc_seq' ?_; refine W_region (by kernel_rfl) ?_; refine vl_n ?_; refine H_of_R (R_loadN TN_34 H fun _ t10 _ _ H _ _ => ?_)
  refine vl_n ?_; refine H_of_R (R_move (v := a1) rfl ?_)
  refine vl_n ?_; refine H_of_R (R_move (v := a2) rfl ?_)
  refine vl_n ?_; refine H_of_R (R_build TB_30 rfl (by decide) H fun t13 H => ?_)
  refine vl_n ?_; refine H_mkSl TZ_25 (by decide) rfl H rfl fun t14 h H => ?_; refine vl_n ?_; refine H_call HB_45 H fun t15 h H => ?_; refine vl_n ?_; refine H_of_R (R_move (v := t15) rfl ?_)
  refine vl_n ?_; refine H_of_R (R_ext H fun t16 H => ?_)
  refine vl_n ?_; refine H_of_R (R_ext H fun t17 H => ?_)
  refine vl_n ?_; refine H_of_R (R_assign (v := t16) rfl ?_)
  refine vl_n ?_; refine H_of_R (R_assign (v := t17) rfl ?_)
  refine vl_e ?_; refine WPc_seq' ?_; refine W_region (by kernel_rfl) ?_; refine vl_n ?_; refine H_of_R (R_move (v := t17) rfl ?_)
  refine vl_n ?_; refine H_of_R (R_assign (v := t17) rfl ?_)
  refine vl_e ?_; refine WPc_ret ?_; refine resH_of rfl ?_; exact H
end Go.Proofs.Ythpmeccnddchpaa
end
