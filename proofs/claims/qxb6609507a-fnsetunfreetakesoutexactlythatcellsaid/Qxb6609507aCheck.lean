import Derived.Test.Qxb6609507aCk0
import Derived.Test.Qxb6609507aCk2
import Derived.Test.Qxb6609507aCk6
import Derived.Test.Qxb6609507aCk8
import Derived.Test.Qxb6609507aCk10
import Derived.Test.Qxb6609507aChk
import Derived.Deep.CutBlock
import Derived.Deep.QuietTactic
import Derived.LaidEqlPtr
namespace Go.Proofs.Qxb6609507a.U
open Go.RowKit Go.Proofs.Qxb6609507a.Plain
set_option linter.unusedVariables false
set_option linter.unusedSimpArgs false

set_option maxRecDepth 100000 in
set_option maxHeartbeats 8000000 in
theorem checkForest_any {fan t : Nat → Nat} {M : Nat} {x : Blk} {lk : Bool} {N : Nat → Nat} {C V : Nat → Value} {V0 V1 : Value} {MB : Nat} {aT : Option Addr} {cT : Nat} {w : World} (hC : Chk w fan t M x lk N C V V0 V1 MB aT) : Calls Try.prog 13 #[.pointer (some ⟨x.FF, 0, none⟩), .pointer (some ⟨MB, 0, none⟩), .slice aT M cT, .bool lk] w (fun e w' => e = .returned (.bool true) ∧ Below w.heap.size w w') := by
  have HC := hid hC
  have hM9 := hC.tr.few
  clear hC
  go_enter Try.func13, Try.ntmps13
  go_upto_block 0 with fail
  refine Code.wp_mono then_imp (ck0 (cT := cT) w _ _ _ _ _ _ _ _ _ _ _ _ _ _ _ _ _ _ _ _ _ _ _ _ _ _ _ _ _ _ _ _ _ _ _ _ _ _ _ _ _ _ _ _ _ _ _ _ _ _ _ _ _ _ _ _ _ _ _ _ _ _ _ _ _ _ _ _ _ _ _ _ _ _ _ _ _ _ _ _ _ _ _ _ _ _ _ _ _ _ _ _ _ _ _ _ _ _ _ _ _ _ _ _ _ _ _ _ _ _ _ _ _ _ _ _ _ _ _ _ _ _ _ _ _ _ _ _ _ _ _ _ _ _ _ _ _ _ _ _ _ _ _ _ _ _ _ _ _ _ _ _ _ _ _ _ _ _ _ _ _ _ _ _ _ _ _ _ _ _ _ _ _ _ _ _ _ _ _ _ _ _ _ _ _ _ _ _ _ _ _ _ _ _ _ _ _ _ _ _ _ _ _ _ _ _ _ _ _ _ _ _ _ _ _ _ _ _ _ _ _ _ _ _ _ _ _ _ _ _ _ _ _ _ _ _ _ _ _ _ _ _ _ _ _ _ _ _ _ _ _ _ _ _ _ _ _ _ _ _ _ _ _ _ _ _ _ _ _ _ _ _ _ _ _ _ _ _ _ _ _ _ _ _ _ _ _ _ _ _ _ _ _ _ _ _ _ _ _ _ _ _ _ _ _ _ _ _ _ _ _ HC.out ?_)
  intro v8 v9 v32 v33 v34 v35 v36 v37 v38 v39 v40 v41 v42 v43 v44 v45 v46 v47 v48 v49 v50 v51 v52 v53 v54 v55 v56 v57 v58 v59 w1 hb1
  have HB1 := hid hb1
  have hC1 := HC.out.below hb1
  have HC1 := hid hC1
  have C29 := acc29 hC1.ff 5 0 (by omega) (by rw [hC1.head.fanout 5 (by omega), hC1.f5]; rfl)
  clear hC1 hb1 HC
  go_upto_block 2 with (go_at_call 29; refine C29.mono ?_; rintro e w2 ⟨rfl, rfl⟩)
  refine Code.wp_mono then_imp (ck2 (cT := cT) _ _ _ _ _ _ _ _ _ _ _ _ _ _ _ _ _ _ _ _ _ _ _ _ _ _ _ _ _ _ _ _ _ _ _ _ _ _ _ _ _ _ _ _ _ _ _ _ _ _ _ _ _ _ _ _ _ _ _ _ _ _ _ _ _ _ _ _ _ _ _ _ _ _ _ _ _ _ _ _ _ _ _ _ _ _ _ _ _ _ _ _ _ _ _ _ _ _ _ _ _ _ _ _ _ _ _ _ _ _ _ _ _ _ _ _ _ _ _ _ _ _ _ _ _ _ _ _ _ _ _ _ _ _ _ _ _ _ _ _ _ _ _ _ _ _ _ _ _ _ _ _ _ _ _ _ _ _ _ _ _ _ _ _ _ _ _ _ _ _ _ _ _ _ _ _ _ _ _ _ _ _ _ _ _ _ _ _ _ _ _ _ _ _ _ _ _ _ _ _ _ _ _ _ _ _ _ _ _ _ _ _ _ _ _ _ _ _ _ _ _ _ _ _ _ _ _ _ _ _ _ _ _ _ _ _ _ _ _ _ _ _ _ _ _ _ _ _ _ _ _ _ _ _ _ _ _ _ _ _ _ _ _ _ _ _ _ _ _ _ _ _ _ _ _ _ _ _ _ _ _ _ _ _ _ _ _ _ _ _ _ _ _ _ _ _ _ _ _ _ _ _ _ _ _ _ _ _ _ _ _ _ HC1.out ?_)
  intro v8 v10 v11 v12 v13 v14 v15 v16 v17 v18 v19 v63 v64 v65 v66 v67 v68 v69 v70 v71 v72 v73 v74 v75 v76 v77 v78 v79 v80 v81 v82 v83 v84 v85 v86 v87 v88 v89 v90 v91 v92 v93 v94 v95 v96 v97 v98 v99 v100 v101 v102 v103 v104 v105 v106 v107 v108 v109 v110 v111 v112 v113 v114 v115 v116 v117 v118 v119 v120 v121 v122 v123 v124 v125 v126 v127 v128 v129 v130 v131 v132 v133 v134 v135 v136 v137 v138 v139 w3 hb3
  have HB3 := hid (HB1.out.trans (hb3.mono HB1.out.size))
  have hC3 := HC1.out.below hb3
  have HC3 := hid hC3
  obtain ⟨a0, c0', hv0⟩ := hC3.ro.form
  have C38 := acc38 hC3.ff M c0' a0 (by rw [hC3.c0]; exact hv0)
  clear hC3 hb3 HC1 HB1 C29 hv0
  go_upto_block 6 with (go_at_call 38; refine C38.mono ?_; rintro e w2 ⟨rfl, rfl⟩)
  refine Code.wp_mono then_imp (ck6 (cT := cT) _ _ _ _ _ _ _ _ _ _ _ _ _ _ _ _ _ _ _ _ _ _ _ _ _ _ _ _ _ _ _ _ _ _ _ _ _ _ _ _ _ _ _ _ _ _ _ _ _ _ _ _ _ _ _ _ _ _ _ _ _ _ _ _ _ _ _ _ _ _ _ _ _ _ _ _ _ _ _ _ _ _ _ _ _ _ _ _ _ _ _ _ _ _ _ _ _ _ _ _ _ _ _ _ _ _ _ _ _ _ _ _ _ _ _ _ _ _ _ _ _ _ _ _ _ _ _ _ _ _ _ _ _ _ _ _ _ _ _ _ _ _ _ _ _ _ _ _ _ _ _ _ _ _ _ _ _ _ _ _ _ _ _ _ _ _ _ _ _ _ _ _ _ _ _ _ _ _ _ _ _ _ _ _ _ _ _ _ _ _ _ _ _ _ _ _ _ _ _ _ _ _ _ _ _ _ _ _ _ _ _ _ _ _ _ _ _ _ _ _ _ _ _ _ _ _ _ _ _ _ _ _ _ _ _ _ _ _ _ _ _ _ _ _ _ _ _ _ _ _ _ _ _ _ _ _ _ _ _ _ _ _ _ _ _ _ _ _ _ _ _ _ _ _ _ _ _ _ _ _ _ _ _ _ _ _ _ _ _ _ _ _ _ _ _ _ _ _ _ _ _ _ _ _ _ _ _ _ _ _ _ _ HC3.out ?_)
  intro v8 v20 v145 v146 v147 v148 v149 v150 v151 v152 v153 v154 v155 v156 v157 v158 v159 v160 v161 v162 v163 v164 v165 v166 v167 v168 v169 w4 hb4
  have HB4 := hid (HB3.out.trans (hb4.mono HB3.out.size))
  have hC4 := HC3.out.below hb4
  have HC4 := hid hC4
  obtain ⟨R, hR⟩ : ∃ R, R = (RL t M).length := ⟨_, rfl⟩
  have hR9 : R ≤ 65536 := by have := RL_le (t := t) M; omega
  obtain ⟨a1, c1', hv1, _⟩ := hC4.ru
  obtain ⟨a6, c6', hv6⟩ := hC4.s6.form
  have m6 := hC4.mc (q := 32) (by omega) (by omega)
  rw [hv6, ← hR] at m6
  have e1 : C 1 = .slice a1 R c1' := by rw [hC4.c1, hv1, hR]
  have C40 := fun k => acc40 (w := w4.drewN k) (hC4.ff.drewN k) R c1' a1 e1
  clear hC4 hb4 HC3 HB3 C38 hv1 hv6 e1 hR
  go_upto_region 32 with fail
  go_quiet (first | (go_at_call 40; exact Calls.quiet_of_same (C40 _)))
  have HB5 := hid (below_drewN HB4.out nq)
  have HC5 := hid (HC4.out.below (below_drewN (Below.refl _ _) nq))
  clear C40 m6 HC4 HB4
  generalize w4.drewN nq = w5 at HB5 HC5 ⊢
  go_upto_block 8 with fail
  refine Code.wp_mono then_imp (ck8 (cT := cT) _ _ _ _ _ _ _ _ _ _ _ _ _ _ _ _ _ _ _ _ _ _ _ _ _ _ _ _ _ _ _ _ _ _ _ _ _ _ _ _ _ _ _ _ _ _ _ _ _ _ _ _ _ _ _ _ _ _ _ _ _ _ _ _ _ _ _ _ _ _ _ _ _ _ _ _ _ _ _ _ _ _ _ _ _ _ _ _ _ _ _ _ _ _ _ _ _ _ _ _ _ _ _ _ _ _ _ _ _ _ _ _ _ _ _ _ _ _ _ _ _ _ _ _ _ _ _ _ _ _ _ _ _ _ _ _ _ _ _ _ _ _ _ _ _ _ _ _ _ _ _ _ _ _ _ _ _ _ _ _ _ _ _ _ _ _ _ _ _ _ _ _ _ _ _ _ _ _ _ _ _ _ _ _ _ _ _ _ _ _ _ _ _ _ _ _ _ _ _ _ _ _ _ _ _ _ _ _ _ _ _ _ _ _ _ _ _ _ _ _ _ _ _ _ _ _ _ _ _ _ _ _ _ _ _ _ _ _ _ _ _ _ _ _ _ _ _ _ _ _ _ _ _ _ _ _ _ _ _ _ _ _ _ _ _ _ _ _ _ _ _ _ _ _ _ _ _ _ _ _ _ _ _ _ _ _ _ _ _ _ _ _ _ _ _ _ _ _ _ _ _ _ _ _ _ _ _ _ _ _ _ _ HC5.out ?_)
  intro v8 v21 v22 v23 v24 v25 v178 v179 v180 v181 v182 v183 v184 v185 v186 v187 v188 v189 v190 v191 v192 v193 v194 v195 v196 v197 v198 v199 v200 v201 v202 v203 v204 v205 v206 v207 v208 v209 v210 v211 v212 v213 v214 v215 v216 v217 v218 v219 v220 v221 v222 v223 v224 v225 v226 v227 v228 v229 v230 v231 v232 v233 v234 v235 v236 w6 hb6
  have HB6 := hid (HB5.out.trans (hb6.mono HB5.out.size))
  have hC6 := HC5.out.below hb6
  have HC6 := hid hC6
  have C42 := acc42 hC6.ff _ hC6.c39
  have e22 := hC6.head.links
  cases lk with
  | false =>
    have C25 := acc25 hC6.ff (.pointer none) e22
    clear hC6 hb6 HC5 HB5 e22
    go_wp2_with (first | (go_at_call 25; refine C25.mono ?_; rintro e w2 ⟨rfl, rfl⟩) | (go_at_call 42; refine C42.mono ?_; rintro e w2 ⟨rfl, rfl⟩))
    go_ret
    exact ⟨rfl, HB6.out⟩
  | true =>
    have C25 := acc25 hC6.ff (.pointer (some ⟨x.KB, 0, none⟩)) e22
    clear hC6 hb6 HC5 HB5 e22
    go_upto_block 10 with (go_at_call 25; refine C25.mono ?_; rintro e w2 ⟨rfl, rfl⟩)
    refine Code.wp_mono then_imp (ck10 (cT := cT) _ _ _ _ _ _ _ _ _ _ _ _ _ _ _ _ _ _ _ _ _ _ _ _ _ _ _ _ _ _ _ _ _ _ _ _ _ _ _ _ _ _ _ _ _ _ _ _ _ _ _ _ _ _ _ _ _ _ _ _ _ _ _ _ _ _ _ _ _ _ _ _ _ _ _ _ _ _ _ _ _ _ _ _ _ _ _ _ _ _ _ _ _ _ _ _ _ _ _ _ _ _ _ _ _ _ _ _ _ _ _ _ _ _ _ _ _ _ _ _ _ _ _ _ _ _ _ _ _ _ _ _ _ _ _ _ _ _ _ _ _ _ _ _ _ _ _ _ _ _ _ _ _ _ _ _ _ _ _ _ _ _ _ _ _ _ _ _ _ _ _ _ _ _ _ _ _ _ _ _ _ _ _ _ _ _ _ _ _ _ _ _ _ _ _ _ _ _ _ _ _ _ _ _ _ _ _ _ _ _ _ _ _ _ _ _ _ _ _ _ _ _ _ _ _ _ _ _ _ _ _ _ _ _ _ _ _ _ _ _ _ _ _ _ _ _ _ _ _ _ _ _ _ _ _ _ _ _ _ _ _ _ _ _ _ _ _ _ _ _ _ _ _ _ _ _ _ _ _ _ _ _ _ _ _ _ _ _ _ _ _ _ _ _ _ _ _ _ _ _ _ _ _ _ _ _ _ _ _ _ _ _ HC6.out rfl ?_)
    intro v8 v26 v27 v28 v29 v30 v31 v245 v246 v247 v248 v249 v250 v251 v252 v253 v254 v255 v256 v257 v258 v259 v260 v261 v262 v263 v264 v265 v266 v267 v268 v269 v270 v271 v272 v273 v274 v275 v276 v277 v278 v279 v280 v281 v282 v283 v284 v285 v286 v287 v288 v289 v290 v291 v292 v293 v294 v295 v296 v297 v298 v299 v300 v301 v302 v303 v304 v305 v306 v307 v308 v309 v310 w7 hb7
    have HB7 := hid (HB6.out.trans (hb7.mono HB6.out.size))
    have hC7 := HC6.out.below hb7
    have C42' := acc42 hC7.ff _ hC7.c39
    clear hC7 hb7 HC6 HB6 C42
    go_wp2_with (go_at_call 42; refine C42'.mono ?_; rintro e w2 ⟨rfl, rfl⟩)
    go_ret
    exact ⟨rfl, HB7.out⟩

end Go.Proofs.Qxb6609507a.U
