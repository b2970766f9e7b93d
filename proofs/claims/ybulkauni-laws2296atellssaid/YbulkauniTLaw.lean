import Derived.Test.YbulkauniTLoopC
import Derived.Test.YbulkauniTLoopD
namespace Go.Proofs.Ybulkauni.lawS2296ATells
open Go.ChangeShapes Go.WideShapes Go.ChangeAt Go.RowKit Go.Maps
open Go.Proofs.Ybulkauni.lawS2296CSendTaken (RowIs clone_any below_drewN bcell)
theorem Fr.cellAt {R m : Nat} {w w' : World} (h : Fr R (fun o => 68 ≤ o ∧ o ≤ 71) (fun k => k = m) w w') {g o : Nat} {v : Value} (hc : w.cell? ⟨g, o, none⟩ = some v) (ho : o < 68) (hm : g ≠ m) : w'.cell? ⟨g, o, none⟩ = some v := by
  by_cases e : g = R
  · subst e
    exact (h.cell o (by omega)).trans hc
  · exact (World.cell?_of_block (w := w) (h.block g (cell_lt hc) e hm)).trans hc
theorem fi_of {w0 w w' : World} {R m q : Nat} {r1 : Int} {n : Nat} {l : List Ent} {va : Option Addr} {vc B C : Nat} {aa : Option Addr} {ac : Nat} {hm : Option Nat} {ea : Option Addr} {ec : Nat} {lm : Option Nat} (h : LI w0 w R m q r1 n l l va vc) (hF : Fr R (fun o => 68 ≤ o ∧ o ≤ 71) (fun k => k = m) w w') (hT : Two w' R B C (outA r1 1 l) (outE r1 1 l) aa ac hm ea ec lm) : FI w0 w' q r1 l va vc B aa ac ea ec := by
  obtain ⟨D, hD, -⟩ := h.tel
  refine ⟨hF.ownsRow h.own (fun g hg => ?_), hT.a.own, hT.e.own, Nat.lt_of_lt_of_le h.base.hq hF.size, hF.cellAt h.base.q0 (by omega) (cell_map h.base.q0 hD), hF.cellAt h.base.q1 (by omega) (cell_map h.base.q1 hD), ?_, h.low.trans (hF.toBelow h.low.size h.bR (fun k hk => by rw [hk]; exact h.bm))⟩
  · rw [sb_own] at hg
    exact ⟨fun e => h.apart g hg (.inl e), fun e => row_map h.own hD (by rw [hg, e])⟩
  · intro e he
    have ok := h.ents e he
    refine ⟨fun k hk => ?_, fun k hk => ?_, ok.np, ok.nr⟩
    · obtain ⟨b, hb, h1, h2, h3⟩ := ok.p k hk
      have := ok.np
      exact ⟨b, hb, Nat.lt_of_lt_of_le h1 hF.size, hF.cellAt h2 (by omega) (cell_map h2 hD), hF.cellAt h3 (by omega) (cell_map h3 hD)⟩
    · obtain ⟨b, hb, h1, h2⟩ := ok.q k hk
      have := ok.nr
      exact ⟨b, hb, Nat.lt_of_lt_of_le h1 hF.size, hF.cellAt h2 (by omega) (cell_map h2 hD)⟩
theorem len_cleared {w : World} {m clk : Nat} (h : w.heap[m]? = some (.map #[] clk)) (ty : TypeId) : (Builtin.len_ #[50] ty #[.map (some m)]).run Yba.prog w = .ok (.int .i64 0) w := by
  simp [Builtin.len_, run_underlying Yba.underlying50, MapKept.run_getObj_map h, goInt, Result.andThen]
set_option maxRecDepth 1000000 in
set_option maxHeartbeats 8000000 in
theorem law_any (r1 : Int) (a : Option Addr) (n cap : Nat) (w : World) (hI : Items w a n) :
    Calls Yba.prog 3 #[.int .u64 r1, .slice a n cap] w fun e w' => e = .returned (.bool true) ∧ Below w.heap.size w w' := by
  have HI : Hid _ := hI
  clear hI
  by_cases hn : n ≤ 1024
  · obtain ⟨w1, hw1⟩ : ∃ w1, w1 = w.alloc (.cells #[.int .u64 1] 22) := ⟨_, rfl⟩
    have hc1 : w1.cell? ⟨w.heap.size, 0, none⟩ = some (.int .u64 1) := by rw [hw1]; exact (by go_simp)
    have hs1 : w.heap.size < w1.heap.size := by rw [hw1]; simp
    have hb1 : Below w.heap.size w w1 := by rw [hw1]; exact (Below.refl _ _).alloc (Nat.le_refl _) _
    have HN : Hid _ := new_any w.heap.size w1 hs1 hc1
    have hn' : ¬ ((1024 : Int) < (n : Int)) := by omega
    go_enter Yba.func3, Yba.ntmps3
    go_wp2_with fail
    rw [← hw1]
    clear hw1
    refine Calls.mono HN.out ?_
    rintro e w2 ⟨R, sl, m5, m13, m14, m15, m17, m, rfl, hR1, hR2, hm1, hm2, hb2⟩
    have HR : Hid _ := hR2
    have HM : Hid _ := hm2
    have d39 := cell_heap hR2 (o := 39) rfl
    have d40 := cell_heap hR2 (o := 40) rfl
    have hRl : R < w2.heap.size := (Array.getElem?_eq_some_iff.1 hR2).1
    have f39 : w2.frozen? ⟨R, 39, none⟩ = false := by simp [World.frozen?, hR2]
    have f40 : w2.frozen? ⟨R, 40, none⟩ = false := by simp [World.frozen?, hR2]
    clear hR2 hm2 HN
    go_wp2
    obtain ⟨hB0, hT0⟩ := base_start r1 HR.out HM.out
    have hw2 : w.heap.size ≤ w2.heap.size := Nat.le_trans (Nat.le_of_lt hs1) hb2.size
    have HL0 : Hid (LI w (((w2.setCell ⟨R, 39, none⟩ (.int .u64 r1)).setCell ⟨R, 40, none⟩ (.int .u64 1)).alloc (.cells #[.int .u64 r1, .int .u64 1] 28)) R m w2.heap.size r1 0 [] [] none 0) := ⟨hB0, hT0, (fun e h => by cases h), by simp [Inc], Nat.le_refl _, ⟨rfl, .inl ⟨rfl, rfl⟩⟩, (fun g h => by cases h), (((hb1.trans (hb2.mono (Nat.le_of_lt hs1))).setCell (p := ⟨R, 39, none⟩) (by show w.heap.size ≤ R; omega) _).setCell (p := ⟨R, 40, none⟩) (by show w.heap.size ≤ R; omega) _).alloc (by simp; omega) _, by omega, by omega⟩
    clear hB0 hT0 d39 d40 f39 f40 HR HM hb1 hc1
    refine loop1 _ _ _ _ _ _ _ _ _ _ _ _ _ _ _ _ _ _ _ _ _ _ _ _ _ _ _ _ _ _ _ _ _ _ _ _ _ _ _ _ _ _ _ _ _ _ _ _ _ _ _ _ _ _ _ _ _ _ _ _ _ _ _ _ _ _ _ _ _ _ _ _ _ _ _ _ _ _ _ _ _ _ _ _ _ _ _ _ _ _ _ _ _ _ _ _ _ _ _ _ _ _ _ _ _ _ _ _ _ _ _ _ _ _ _ _ _ _ _ _ _ _ _ _ _ _ _ _ _ _ _ _ _ _ _ _ _ _ _ _ _ _ _ _ _ _ _ _ _ _ _ _ _ _ _ _ _ _ _ _ _ _ _ _ _ _ _ _ _ _ _ _ _ _ _ _ _ _ _ _ _ _ _ _ _ _ _ _ _ _ _ _ _ _ _ _ _ _ _ _ _ _ _ _ _ _ _ _ _ _ _ _ _ _ _ _ _ _ _ _ _ _ _ _ _ _ _ _ _ _ _ _ _ _ _ _ _ _ _ _ _ _ _ _ _ _ _ _ _ _ _ _ _ _ _ _ _ _ _ _ _ _ _ _ _ _ _ _ _ _ _ _ w _ R m w2.heap.size r1 a n cap hn HI.out HL0.out ?_
    clear HL0 hb2 hs1 hR1 hm1 hw2 hRl
    intro v9 v10 v11 v12 v13 v14 v15 v16 v17 v18 v19 v20 v21 v42 v43 v44 v45 v46 v47 v48 v49 v50 v51 v52 v53 v54 v55 v56 v57 v58 v59 v60 v61 v62 v63 v64 v65 v66 v67 v68 v69 v70 v71 v72 v73 v74 v75 v76 v77 v78 v79 v80 v81 v82 v83 v84 v85 v86 v87 v88 v89 v90 v91 v92 v93 v94 v95 v96 v97 v98 v99 v100 v101 v102 v103 v104 v105 v106 v107 v108 v109 v110 v111 v112 v113 v114 v115 v116 v117 v118 v119 v120 v121 v122 v123 v124 v125 v126 v127 v128 v129 v130 v131 v132 v133 v134 v135 v136 v137 v138 v139 v140 v141 v142 v143 v144 v145 v146 v147 v148 v149 v150 v151 v152 v153 v154 v155 v156 v157 v158 v159 v160 v161 v162 v163 v164 v165 v166 v167 v168 v169 v170 l va vc w4 hL
    have HL : Hid _ := hL
    have Hpl : Hid _ := placed_any R m r1 1 l w4 hL.base.hR hL.base.hm hL.base.mR hL.base.c39 hL.base.c40 hL.base.c52 hL.base.c68 hL.base.c69 hL.base.c70 hL.base.c71 hL.base.fz (hL.tel.tel (by omega)) (Nat.le_trans hL.len hn) hL.inc (fun e he => ⟨(hL.ents e he).pl, (hL.ents e he).bR, (hL.ents e he).good, (hL.ents e he).np, (hL.ents e he).nr⟩)
    have hll : l.length ≤ 1024 := Nat.le_trans hL.len hn
    clear hL
    generalize w2.heap.size = q at *
    dsimp only
    go_wp2_with fail
    refine Calls.mono Hpl.out ?_
    rintro e w5 ⟨rfl, ⟨B, C, hB, aa, ac, hm, ea, ec, lm, hT⟩, ⟨clk, hclk⟩, hF⟩
    have c52 := (hF.cell 52 (by omega)).trans HL.out.base.c52
    have c66 := (hF.cell 66 (by omega)).trans HL.out.base.c66
    have c68 := hT.a.c68
    have c70 := hT.e.c70
    have hR5 : R < w5.heap.size := Nat.lt_of_lt_of_le HL.out.base.hR hF.size
    have hlen := len_cleared hclk
    have HFI : Hid _ := fi_of HL.out hF hT
    clear hT hF hclk Hpl HL
    go_wp2
    refine loop6 _ _ _ _ _ _ _ _ _ _ _ _ _ _ _ _ _ _ _ _ _ _ _ _ _ _ _ _ _ _ _ _ _ _ _ _ _ _ _ _ _ _ _ _ _ _ _ _ _ _ _ _ _ _ _ _ _ _ _ _ _ _ _ _ _ _ _ _ _ _ _ _ _ _ _ _ _ _ _ _ _ _ _ _ _ _ _ _ _ _ _ _ _ _ _ _ _ _ _ _ _ _ _ _ _ _ _ _ _ _ _ _ _ _ _ _ _ _ _ _ _ _ _ _ _ _ _ _ _ _ _ _ _ _ _ _ _ _ _ _ _ _ _ _ _ _ _ _ _ _ _ _ _ _ _ _ _ _ _ _ _ _ _ _ _ _ _ _ _ _ _ _ _ _ _ _ _ _ _ _ _ _ _ _ _ _ _ _ _ _ _ _ _ _ _ _ _ _ _ _ _ _ _ _ _ _ _ _ _ _ _ _ _ _ _ _ _ _ _ _ _ _ _ _ _ _ _ _ _ _ _ _ _ _ _ _ _ _ _ _ _ _ _ _ _ _ _ _ _ _ _ _ _ _ _ _ _ _ _ _ _ _ _ _ _ _ _ _ _ w w5 q r1 l va vc B aa ac ea ec hll HFI.out ?_
    intro v4 v27 v200 v201 v202 v203 v204 v205 v206 v207 v208 v209 v210 v211 v212 v213 v214 v215 v216 v217 v218 v219 v220 v221 v222 v223 v224 v225 v226 v227 v228 v229 v230 v231 v232 v233 v234 v235 v236 v237 v238 v239 v240 v241 v242 v243 v244 v245 v246 v247 v248 v249 v250 v251 v252 v253 v254 v255 v256 v257 v258 v259 v260 v261 v262 v263 v264 v265 v266 w6 hF6
    have HF6 : Hid _ := hF6
    clear hF6 HFI c52 c66 c68 c70 hlen
    dsimp only
    go_wp2
    go_ret
    exact ⟨rfl, HF6.out.low⟩
  · have hn' : (1024 : Int) < (n : Int) := by omega
    go_enter Yba.func3, Yba.ntmps3
    go_wp2
    go_ret
    exact ⟨rfl, Below.refl _ _⟩
end Go.Proofs.Ybulkauni.lawS2296ATells
