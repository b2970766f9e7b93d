import Derived.Test.YbulkauniTLoopB
namespace Go.Proofs.Ybulkauni.lawS2296ATells
open Go.ChangeShapes Go.WideShapes Go.ChangeAt Go.RowKit Go.Maps
open Go.Proofs.Ybulkauni.lawS2296CSendTaken (RowIs clone_any below_drewN bcell)
/-- The items that came in. -/
def Items (w : World) (a : Option Addr) (n : Nat) : Prop := ∀ k, k < n → ∃ b off v o r p t, a = some ⟨b, off, none⟩ ∧ b < w.heap.size ∧ (v < 256 ∧ o < 256 ∧ r < 256 ∧ p < 256 ∧ t < 256) ∧
  w.cell? ⟨b, off + k * 5, none⟩ = some (.int .u8 ((v : Nat) : Int)) ∧ w.cell? ⟨b, off + k * 5 + 1, none⟩ = some (.int .u8 ((o : Nat) : Int)) ∧ w.cell? ⟨b, off + k * 5 + 2, none⟩ = some (.int .u8 ((r : Nat) : Int)) ∧ w.cell? ⟨b, off + k * 5 + 3, none⟩ = some (.int .u8 ((p : Nat) : Int)) ∧ w.cell? ⟨b, off + k * 5 + 4, none⟩ = some (.int .u8 ((t : Nat) : Int))
theorem base_start {w2 : World} {R m : Nat} {sl : Value} {m5 m13 m14 m15 m17 : Nat} (r1 : Int) (hR : w2.heap[R]? = some (.cells (rep sl m5 m13 m14 m15 m17 m) 63 (0, 0))) (hm : w2.heap[m]? = some (.map #[] 0)) :
    Base (((w2.setCell ⟨R, 39, none⟩ (.int .u64 r1)).setCell ⟨R, 40, none⟩ (.int .u64 1)).alloc (.cells #[.int .u64 r1, .int .u64 1] 28)) R m w2.heap.size r1 ∧ TelN (((w2.setCell ⟨R, 39, none⟩ (.int .u64 r1)).setCell ⟨R, 40, none⟩ (.int .u64 1)).alloc (.cells #[.int .u64 r1, .int .u64 1] 28)) m 0 [] := by
  have hRl : R < w2.heap.size := (Array.getElem?_eq_some_iff.1 hR).1
  have hml : m < w2.heap.size := (Array.getElem?_eq_some_iff.1 hm).1
  have hmR : m ≠ R := by rintro rfl; rw [hm] at hR; cases hR
  have hz : ((w2.setCell ⟨R, 39, none⟩ (.int .u64 r1)).setCell ⟨R, 40, none⟩ (.int .u64 1)).heap.size = w2.heap.size := by simp
  have c : ∀ o v, w2.cell? ⟨R, o, none⟩ = some v → o ≠ 39 → o ≠ 40 → (((w2.setCell ⟨R, 39, none⟩ (.int .u64 r1)).setCell ⟨R, 40, none⟩ (.int .u64 1)).alloc (.cells #[.int .u64 r1, .int .u64 1] 28)).cell? ⟨R, o, none⟩ = some v := by
    intro o v h h1 h2
    rw [World.cell?_alloc_lt _ _ _ (by rw [hz]; exact hRl), cs (.inr h2), cs (.inr h1)]
    exact h
  have q : ∀ j, (((w2.setCell ⟨R, 39, none⟩ (.int .u64 r1)).setCell ⟨R, 40, none⟩ (.int .u64 1)).alloc (.cells #[.int .u64 r1, .int .u64 1] 28)).cell? ⟨w2.heap.size, j, none⟩ = #[Value.int .u64 r1, .int .u64 1][j]? := by
    intro j
    have := World.cell?_alloc_mark ((w2.setCell ⟨R, 39, none⟩ (.int .u64 r1)).setCell ⟨R, 40, none⟩ (.int .u64 1)) #[.int .u64 r1, .int .u64 1] 28 (0, 0) j
    rw [hz] at this
    exact this
  refine ⟨⟨by simp; omega, by simp; omega, by simp, hmR, ?_, ?_, c 52 _ (cell_heap hR rfl) (by decide) (by decide), c 66 _ (cell_heap hR rfl) (by decide) (by decide), c 68 _ (cell_heap hR rfl) (by decide) (by decide), c 69 _ (cell_heap hR rfl) (by decide) (by decide), c 70 _ (cell_heap hR rfl) (by decide) (by decide), c 71 _ (cell_heap hR rfl) (by decide) (by decide), ?_, q 0, q 1⟩, ?_⟩
  · rw [World.cell?_alloc_lt _ _ _ (by rw [hz]; exact hRl), cs (.inr (by decide))]
    exact cset (cell_heap hR (o := 39) rfl)
  · rw [World.cell?_alloc_lt _ _ _ (by rw [hz]; exact hRl)]
    exact cset ((cs (.inr (by decide))).trans (cell_heap hR (o := 40) rfl))
  · intro o
    rw [World.frozen?_of_block (w := (w2.setCell ⟨R, 39, none⟩ (.int .u64 r1)).setCell ⟨R, 40, none⟩ (.int .u64 1)) (Below.heap_alloc _ _ _ (by rw [hz]; exact hRl)), World.frozen?_setCell, World.frozen?_setCell]
    simp [World.frozen?, hR]
  · refine ⟨.map [], ?_, ⟨by simp, by simp, (fun c hc => ⟨(fun h => by cases h), (fun h => by simp at h)⟩), (fun y hy => by cases hy)⟩, by simp⟩
    have hb : (((w2.setCell ⟨R, 39, none⟩ (.int .u64 r1)).setCell ⟨R, 40, none⟩ (.int .u64 1)).alloc (.cells #[.int .u64 r1, .int .u64 1] 28)).heap[m]? = some (.map #[] 0) := by
      rw [Below.heap_alloc _ _ _ (by rw [hz]; exact hml), Below.heap_setCell _ _ _ _ hmR, Below.heap_setCell _ _ _ _ hmR]
      exact hm
    obtain ⟨es, clock, hh, r⟩ := World.ownsMap_made (H := Value) w2 Yba.prog 68 rdV
    rw [heap_alloc_new] at hh
    cases hh
    exact ⟨#[], 0, hb, r⟩
theorem LI.ins {w0 W W' : World} {R m q : Nat} {r1 : Int} {n : Nat} {l : List Ent} {e : Ent} {va va' : Option Addr} {vc vc' p : Nat} (h : LI w0 W R m q r1 n (upd e l) l va vc) (hp : p ≤ l.length) (hlen : l.length + 1 ≤ n) (hu : upd e l = l.take p ++ e :: l.drop p) (hg : W.grownBy W' (sb va)) (hs : Same W.heap.size (sb va) (sb va')) (ho : W'.ownsRow w0.heap.size 75 5 (.slice va' (l.length + 1) vc') (l.length + 1) (insAt (rowM l) p (five e))) :
    LI w0 W' R m q r1 n (upd e l) (upd e l) va' vc' ∧ (upd e l).length = l.length + 1 := by
  have hl : (upd e l).length = l.length + 1 := by rw [hu]; simp; omega
  refine ⟨h.turn hg hs ?_ (by omega), hl⟩
  rw [hl, hu, rowM_ins l p e hp]
  exact ho
set_option maxRecDepth 1000000 in
set_option maxHeartbeats 8000000 in
theorem loop1 (u0 u1 u2 u3 u4 u6 u8 u9 u10 u11 u12 u13 u14 u15 u16 u17 u18 u19 u20 u21 u22 u23 u24 u25 u26 u27 u28 u29 u30 u31 u32 u33 u34 u35 u36 u37 u38 u39 u43 u44 u45 u46 u47 u48 u49 u50 u51 u52 u53 u54 u55 u56 u57 u58 u59 u60 u61 u62 u63 u64 u65 u66 u67 u68 u69 u70 u71 u72 u73 u74 u75 u76 u77 u78 u79 u80 u81 u82 u83 u84 u85 u86 u87 u88 u89 u90 u91 u92 u93 u94 u95 u96 u97 u98 u99 u100 u101 u102 u103 u104 u105 u106 u107 u108 u109 u110 u111 u112 u113 u114 u115 u116 u117 u118 u119 u120 u121 u122 u123 u124 u125 u126 u127 u128 u129 u130 u131 u132 u133 u134 u135 u136 u137 u138 u139 u140 u141 u142 u143 u144 u145 u146 u147 u148 u149 u150 u151 u152 u153 u154 u155 u156 u157 u158 u159 u160 u161 u162 u163 u164 u165 u166 u167 u168 u169 u170 u171 u172 u173 u174 u175 u176 u177 u178 u179 u180 u181 u182 u183 u184 u185 u186 u187 u188 u189 u190 u191 u192 u193 u194 u195 u196 u197 u198 u199 u200 u201 u202 u203 u204 u205 u206 u207 u208 u209 u210 u211 u212 u213 u214 u215 u216 u217 u218 u219 u220 u221 u222 u223 u224 u225 u226 u227 u228 u229 u230 u231 u232 u233 u234 u235 u236 u237 u238 u239 u240 u241 u242 u243 u244 u245 u246 u247 u248 u249 u250 u251 u252 u253 u254 u255 u256 u257 u258 u259 u260 u261 u262 u263 u264 u265 u266 u267 u268 u269 u270 u271 u272 u273 u274 u275 u276 : Value) (w0 W : World) (R m q : Nat) (r1 : Int) (a : Option Addr) (n cap : Nat) (hn : n ≤ 1024) (hI : Items w0 a n) (hL : LI w0 W R m q r1 0 [] [] none 0) {Q : Exit → Act → World → Prop}
    (hX : ∀ (v9 v10 v11 v12 v13 v14 v15 v16 v17 v18 v19 v20 v21 v42 v43 v44 v45 v46 v47 v48 v49 v50 v51 v52 v53 v54 v55 v56 v57 v58 v59 v60 v61 v62 v63 v64 v65 v66 v67 v68 v69 v70 v71 v72 v73 v74 v75 v76 v77 v78 v79 v80 v81 v82 v83 v84 v85 v86 v87 v88 v89 v90 v91 v92 v93 v94 v95 v96 v97 v98 v99 v100 v101 v102 v103 v104 v105 v106 v107 v108 v109 v110 v111 v112 v113 v114 v115 v116 v117 v118 v119 v120 v121 v122 v123 v124 v125 v126 v127 v128 v129 v130 v131 v132 v133 v134 v135 v136 v137 v138 v139 v140 v141 v142 v143 v144 v145 v146 v147 v148 v149 v150 v151 v152 v153 v154 v155 v156 v157 v158 v159 v160 v161 v162 v163 v164 v165 v166 v167 v168 v169 v170 : Value) (l : List Ent) (va : Option Addr) (vc : Nat) (w' : World), LI w0 w' R m q r1 n l l va vc → Q (.exit 0) ⟨#[u0, u1, u2, u3, u4, .pointer (some ⟨R, 0, none⟩), u6, .slice va l.length vc, u8, v9, v10, v11, v12, v13, v14, v15, v16, v17, v18, v19, v20, v21, u22, u23, u24, u25, u26, u27, u28, u29, u30, u31, u32, u33, u34, u35, u36, u37, u38, u39, .slice a n cap, .int .i64 (n : Int), v42, v43, v44, v45, v46, v47, v48, v49, v50, v51, v52, v53, v54, v55, v56, v57, v58, v59, v60, v61, v62, v63, v64, v65, v66, v67, v68, v69, v70, v71, v72, v73, v74, v75, v76, v77, v78, v79, v80, v81, v82, v83, v84, v85, v86, v87, v88, v89, v90, v91, v92, v93, v94, v95, v96, v97, v98, v99, v100, v101, v102, v103, v104, v105, v106, v107, v108, v109, v110, v111, v112, v113, v114, v115, v116, v117, v118, v119, v120, v121, v122, v123, v124, v125, v126, v127, v128, v129, v130, v131, v132, v133, v134, v135, v136, v137, v138, v139, v140, v141, v142, v143, v144, v145, v146, v147, v148, v149, v150, v151, v152, v153, v154, v155, v156, v157, v158, v159, v160, v161, v162, v163, v164, v165, v166, v167, v168, v169, v170, u171, u172, u173, u174, u175, u176, u177, u178, u179, u180, u181, u182, u183, u184, u185, u186, u187, u188, u189, u190, u191, u192, u193, u194, u195, u196, u197, u198, u199, u200, u201, u202, u203, u204, u205, u206, u207, u208, u209, u210, u211, u212, u213, u214, u215, u216, u217, u218, u219, u220, u221, u222, u223, u224, u225, u226, u227, u228, u229, u230, u231, u232, u233, u234, u235, u236, u237, u238, u239, u240, u241, u242, u243, u244, u245, u246, u247, u248, u249, u250, u251, u252, u253, u254, u255, u256, u257, u258, u259, u260, u261, u262, u263, u264, u265, u266, u267, u268, u269, u270, u271, u272, u273, u274, u275, u276], []⟩ w') :
    Code.wp Yba.prog (nthLoop 0) Q ⟨#[u0, u1, u2, u3, u4, .pointer (some ⟨R, 0, none⟩), u6, .slice none 0 0, u8, u9, u10, u11, u12, u13, u14, u15, u16, u17, u18, u19, u20, u21, u22, u23, u24, u25, u26, u27, u28, u29, u30, u31, u32, u33, u34, u35, u36, u37, u38, u39, .slice a n cap, .int .i64 (n : Int), .int .i64 (0 : Int), u43, u44, u45, u46, u47, u48, u49, u50, u51, u52, u53, u54, u55, u56, u57, u58, u59, u60, u61, u62, u63, u64, u65, u66, u67, u68, u69, u70, u71, u72, u73, u74, u75, u76, u77, u78, u79, u80, u81, u82, u83, u84, u85, u86, u87, u88, u89, u90, u91, u92, u93, u94, u95, u96, u97, u98, u99, u100, u101, u102, u103, u104, u105, u106, u107, u108, u109, u110, u111, u112, u113, u114, u115, u116, u117, u118, u119, u120, u121, u122, u123, u124, u125, u126, u127, u128, u129, u130, u131, u132, u133, u134, u135, u136, u137, u138, u139, u140, u141, u142, u143, u144, u145, u146, u147, u148, u149, u150, u151, u152, u153, u154, u155, u156, u157, u158, u159, u160, u161, u162, u163, u164, u165, u166, u167, u168, u169, u170, u171, u172, u173, u174, u175, u176, u177, u178, u179, u180, u181, u182, u183, u184, u185, u186, u187, u188, u189, u190, u191, u192, u193, u194, u195, u196, u197, u198, u199, u200, u201, u202, u203, u204, u205, u206, u207, u208, u209, u210, u211, u212, u213, u214, u215, u216, u217, u218, u219, u220, u221, u222, u223, u224, u225, u226, u227, u228, u229, u230, u231, u232, u233, u234, u235, u236, u237, u238, u239, u240, u241, u242, u243, u244, u245, u246, u247, u248, u249, u250, u251, u252, u253, u254, u255, u256, u257, u258, u259, u260, u261, u262, u263, u264, u265, u266, u267, u268, u269, u270, u271, u272, u273, u274, u275, u276], []⟩ W := by
  dsimp only at hX ⊢
  conv => arg 2; whnf
  have HL0 : Hid _ := hL
  have HX : Hid _ := hX
  have HI : Hid _ := hI
  clear hL hX hI
  go_loopw [42, 7] (fun si sm wr => ∃ (k : Nat) (l : List Ent) (va : Option Addr) (vc : Nat), k ≤ n ∧ si = .int .i64 k ∧ sm = .slice va l.length vc ∧ Hid (LI w0 wr R m q r1 k l l va vc)) (fun si _ _ => n - (intOf si).toNat)
  case atStart => exact ⟨0, [], none, 0, Nat.zero_le _, rfl, rfl, HL0⟩
  case round =>
    obtain ⟨wo, hwo⟩ : ∃ wo, wo = wr := ⟨_, rfl⟩
    subst hwo
    obtain ⟨k, l, va, vc, hk, rfl, rfl, hL⟩ := hrel
    clear HL0
    by_cases hlt : k < n
    · obtain ⟨b, off, v, o, r, p, t, rfl, hb, ⟨v1, v2, v3, v4, v5⟩, c0, c1, c2, c3, c4⟩ := HI.out k hlt
      have hlow := hL.out.low
      have c0' := (hlow.cell (p := ⟨b, off + k * 5, none⟩) hb).trans c0
      have c1' := (hlow.cell (p := ⟨b, off + k * 5 + 1, none⟩) hb).trans c1
      have c2' := (hlow.cell (p := ⟨b, off + k * 5 + 2, none⟩) hb).trans c2
      have c3' := (hlow.cell (p := ⟨b, off + k * 5 + 3, none⟩) hb).trans c3
      have c4' := (hlow.cell (p := ⟨b, off + k * 5 + 4, none⟩) hb).trans c4
      have hb' : b < wo.heap.size := Nat.lt_of_lt_of_le hb hlow.size
      clear hlow c0 c1 c2 c3 c4
      obtain ⟨x1, hx1⟩ : ∃ x1 : Nat, x1 = 2 + v % 4 := ⟨_, rfl⟩
      obtain ⟨x2, hx2⟩ : ∃ x2 : Nat, x2 = if o % 2 = 1 then 1 + o % 6 else x1 := ⟨_, rfl⟩
      obtain ⟨x3, hx3⟩ : ∃ x3 : Nat, x3 = r % 3 := ⟨_, rfl⟩
      obtain ⟨np, hnp⟩ : ∃ np : Nat, np = p % 3 := ⟨_, rfl⟩
      obtain ⟨nr, hnr⟩ : ∃ nr : Nat, nr = t % 3 := ⟨_, rfl⟩
      have hy1 : (2 : Int) + (v : Int) % 4 = (x1 : Int) := by omega
      have hy3 : (r : Int) % 3 = (x3 : Int) := by omega
      have hy4 : (p : Int) % 3 = (np : Int) := by omega
      have hy5 : (t : Int) % 3 = (nr : Int) := by omega
      have Hb : Hid (2 ≤ x1 ∧ x1 ≤ 5 ∧ 2 ≤ x2 ∧ x2 ≤ 6 ∧ x3 ≤ 2) := by
        show _ ∧ _
        refine ⟨by omega, by omega, ?_, ?_, by omega⟩
        · rw [hx2]; split <;> omega
        · rw [hx2]; split <;> omega
      have b1 : x1 ≤ 5 := Hb.out.2.1
      have b2 : x2 ≤ 6 := Hb.out.2.2.2.1
      have b3 : x3 ≤ 2 := Hb.out.2.2.2.2
      have b4 : np ≤ 2 := by omega
      have b5 : nr ≤ 2 := by omega
      have Hx2 : Hid _ := hx2
      obtain ⟨wa, hwa⟩ : ∃ wa, wa = wo.alloc (.cells #[.int .u8 (v : Int), .int .u8 (o : Int), .int .u8 (r : Int), .int .u8 (p : Int), .int .u8 (t : Int)] 66) := ⟨_, rfl⟩
      have hba : Below wo.heap.size wo wa := by rw [hwa]; exact (Below.refl _ _).alloc (Nat.le_refl _) _
      have hsa : wo.heap.size < wa.heap.size := by rw [hwa]; simp
      have e1 : wa.cell? ⟨wo.heap.size, 1, none⟩ = some (.int .u8 (o : Int)) := by rw [hwa]; exact (by go_simp)
      have e2 : wa.cell? ⟨wo.heap.size, 2, none⟩ = some (.int .u8 (r : Int)) := by rw [hwa]; exact (by go_simp)
      have e3 : wa.cell? ⟨wo.heap.size, 3, none⟩ = some (.int .u8 (p : Int)) := by rw [hwa]; exact (by go_simp)
      have e4 : wa.cell? ⟨wo.heap.size, 4, none⟩ = some (.int .u8 (t : Int)) := by rw [hwa]; exact (by go_simp)
      clear hx2 hx1 hx3 hnp hnr
      go_upto_if 55 with fail
      rw [← hwa]
      clear hwa c0' c1' c2' c3' c4'
      go_cut [11] from 43 to 170 (fun s11 wx => s11 = .int .u64 (x2 : Int) ∧ wx = wa)
      case first =>
        by_cases ho : o % 2 = 1
        · have ho' : (o : Int) % 2 = 1 := by omega
          have hy2 : (1 : Int) + (o : Int) % 6 = (x2 : Int) := by have := Hx2.out; rw [if_pos ho] at this; omega
          clear ho
          go_wp2
          go_meet
          case rel => exact ⟨rfl, rfl⟩
        · have ho' : ¬ ((o : Int) % 2 = 1) := by omega
          have hy2 : (x1 : Int) = (x2 : Int) := by have := Hx2.out; rw [if_neg ho] at this; omega
          clear ho
          go_wp2
          go_meet
          case rel => exact ⟨by rw [hy2], rfl⟩
      case rest =>
        obtain ⟨rfl, rfl⟩ := hcut
        obtain ⟨wk, hwk⟩ : ∃ wk, wk = wc := ⟨_, rfl⟩
        subst hwk
        have HL1 : Hid (LI w0 wk R m q r1 k l l va vc) := hL.out.below hba
        clear hL hba e1
        obtain ⟨N, hN⟩ : ∃ N, N = wk.heap.size := ⟨_, rfl⟩
        obtain ⟨wE, hwE⟩ : ∃ wE, wE = ((wk.alloc (.cells #[.int .u64 (x1 : Int), .int .u64 (x2 : Int), .int .u64 (x3 : Int)] 68)).alloc (.cells #[.int .u64 7, .int .u64 9, .int .u64 0, .int .u64 5, .slice none 0 0, .slice none 0 0] 71)) := ⟨_, rfl⟩
        have HE0 : Hid (NewE wk wE N x1 x2 x3 none 0 0 none 0 0) := by
          rw [hwE, hN]
          refine ⟨?_, ?_, ⟨rfl, .inl ⟨rfl, rfl⟩⟩, ⟨rfl, .inl ⟨rfl, rfl⟩⟩, ((Below.refl _ _).alloc (Nat.le_refl _) _).alloc (by simp) _⟩
          · rw [Below.heap_alloc _ _ _ (by simp)]; exact heap_alloc_new _ _
          · have := heap_alloc_new (wk.alloc (.cells #[.int .u64 (x1 : Int), .int .u64 (x2 : Int), .int .u64 (x3 : Int)] 68)) (.cells #[.int .u64 7, .int .u64 9, .int .u64 0, .int .u64 5, .slice none 0 0, .slice none 0 0] 71)
            simpa using this
        go_wp2
        rw [← hwE, ← hN]
        have HN : Hid _ := hN
        clear hN
        refine loop2 _ _ _ _ _ _ _ _ _ _ _ _ _ _ _ _ _ _ _ _ _ _ _ _ _ _ _ _ _ _ _ _ _ _ _ _ _ _ _ _ _ _ _ _ _ _ _ _ _ _ _ _ _ _ _ _ _ _ _ _ _ _ _ _ _ _ _ _ _ _ _ _ _ _ _ _ _ _ _ _ _ _ _ _ _ _ _ _ _ _ _ _ _ _ _ _ _ _ _ _ _ _ _ _ _ _ _ _ _ _ _ _ _ _ _ _ _ _ _ _ _ _ _ _ _ _ _ _ _ _ _ _ _ _ _ _ _ _ _ _ _ _ _ _ _ _ _ _ _ _ _ _ _ _ _ _ _ _ _ _ _ _ _ _ _ _ _ _ _ _ _ _ _ _ _ _ _ _ _ _ _ _ _ _ _ _ _ _ _ _ _ _ _ _ _ _ _ _ _ _ _ _ _ _ _ _ _ _ _ _ _ _ _ _ _ _ _ _ _ _ _ _ _ _ _ _ _ _ _ _ _ _ _ _ _ _ _ _ _ _ _ _ _ _ _ _ _ _ _ _ _ _ _ _ _ _ _ _ _ _ _ _ _ _ _ _ _ _ _ _ _ _ _ _ wk wE N x1 x2 x3 np b4 HE0.out ?_
        intro v16 v79 v80 v81 v82 v83 v84 v85 v86 v87 v88 v89 v90 v91 v92 v93 v94 v95 v96 v97 pa pc w2 hE2
        have HE2 : Hid _ := hE2
        clear hE2 HE0 hwE
        go_wp2
        refine loop3 _ _ _ _ _ _ _ _ _ _ _ _ _ _ _ _ _ _ _ _ _ _ _ _ _ _ _ _ _ _ _ _ _ _ _ _ _ _ _ _ _ _ _ _ _ _ _ _ _ _ _ _ _ _ _ _ _ _ _ _ _ _ _ _ _ _ _ _ _ _ _ _ _ _ _ _ _ _ _ _ _ _ _ _ _ _ _ _ _ _ _ _ _ _ _ _ _ _ _ _ _ _ _ _ _ _ _ _ _ _ _ _ _ _ _ _ _ _ _ _ _ _ _ _ _ _ _ _ _ _ _ _ _ _ _ _ _ _ _ _ _ _ _ _ _ _ _ _ _ _ _ _ _ _ _ _ _ _ _ _ _ _ _ _ _ _ _ _ _ _ _ _ _ _ _ _ _ _ _ _ _ _ _ _ _ _ _ _ _ _ _ _ _ _ _ _ _ _ _ _ _ _ _ _ _ _ _ _ _ _ _ _ _ _ _ _ _ _ _ _ _ _ _ _ _ _ _ _ _ _ _ _ _ _ _ _ _ _ _ _ _ _ _ _ _ _ _ _ _ _ _ _ _ _ _ _ _ _ _ _ _ _ _ _ _ _ _ _ _ _ _ _ _ _ wk w2 N x1 x2 x3 np nr pa pc b5 HE2.out ?_
        intro v17 v98 v99 v100 v101 v102 v103 v104 v105 v106 v107 v108 v109 v110 v111 v112 v113 v114 qa qc w3 hE3
        have HE3 : Hid _ := hE3
        clear HE2 hE3
        dsimp only
        have hN := HN.out
        have hRk : R < wk.heap.size := HL1.out.base.hR
        have hmk : m < wk.heap.size := HL1.out.base.hm
        obtain ⟨e, he⟩ : ∃ e, e = mkE N x1 x2 x3 pa np pc qa nr qc := ⟨_, rfl⟩
        obtain ⟨hOk, hOf⟩ := HE3.out.ok R (by omega) b1 ⟨Hb.out.2.2.1, b2⟩ b3 b4 b5
        rw [← he] at hOk hOf
        have hcode := code_parts x1 x2 x3 b2 b3
        have hec : e.c = x1 * 64 + x2 * 8 + x3 := by rw [he]; rfl
        have Hx : Hid (x1 = e.c / 64 ∧ x2 = e.c / 8 % 8 ∧ x3 = e.c % 8) := by rw [hec]; exact ⟨hcode.1.symm, hcode.2.1.symm, hcode.2.2.symm⟩
        have hLow : Below wk.heap.size wk w3 := by rw [← hN]; exact HE3.out.low
        have hL3 : LI w0 w3 R m q r1 k l l va vc := HL1.out.below hLow
        obtain ⟨w4, hrun4, hT4, hturn4⟩ := tel_store hL3.tel (by omega) hL3.inc (e := e) hOk.good.1
        have hKe : K e.c = .agg #[.int .u64 (x1 : Int), .int .u64 (x2 : Int), .int .u64 (x3 : Int)] := by unfold K; rw [← Hx.out.1, ← Hx.out.2.1, ← Hx.out.2.2]
        have heb : e.b = N + 1 := by rw [he]; rfl
        rw [hKe, heb] at hrun4
        have hva : ∀ g, sb va = some g → g < wk.heap.size := fun g hg => (row_lt HL1.out.own g hg).2
        have HL4 : Hid (LI w0 w4 R m q r1 (k + 1) (upd e l) l va vc) := hL3.told hOk (fun g hg hs => by have h1 := hOf g hg; have h2 := hva g hs; omega) hT4 hturn4
        have HK4 : Hid (w4.heap[N]? = some (.cells #[.int .u64 (x1 : Int), .int .u64 (x2 : Int), .int .u64 (x3 : Int)] 68 (0, 0))) := (hturn4.grown.block N (Array.getElem?_eq_some_iff.1 HE3.out.k).1 (fun q => by have := Option.some.inj q; omega)).trans HE3.out.k
        have Hinc : Hid _ := hL3.inc
        have hlen : l.length ≤ k := hL3.len
        have hlen' : l.length ≤ 1024 := by omega
        have c52 := hL3.base.c52
        have hR3 := hL3.base.hR
        have k0 := cell_heap HE3.out.k (o := 0) rfl
        have k1 := cell_heap HE3.out.k (o := 1) rfl
        have k2 := cell_heap HE3.out.k (o := 2) rfl
        have kl3 := (Array.getElem?_eq_some_iff.1 HE3.out.k).1
        have Hfive : Hid (five e = [.int .u64 (x1 : Int), .int .u64 (x2 : Int), .int .u64 (x3 : Int), .int .i64 (np : Int), .int .i64 (nr : Int)]) := by
          show _ = _
          unfold five
          rw [← Hx.out.1, ← Hx.out.2.1, ← Hx.out.2.2, he]
          rfl
        clear hT4 hturn4 hOk hOf hcode hec hKe heb hva hL3 HL1 HE3 hN HN
        go_wp2
        go_region
        go_wp2
        subst he
        refine loop4 _ _ _ _ _ _ _ _ _ _ _ _ _ _ _ _ _ _ _ _ _ _ _ _ _ _ _ _ _ _ _ _ _ _ _ _ _ _ _ _ _ _ _ _ _ _ _ _ _ _ _ _ _ _ _ _ _ _ _ _ _ _ _ _ _ _ _ _ _ _ _ _ _ _ _ _ _ _ _ _ _ _ _ _ _ _ _ _ _ _ _ _ _ _ _ _ _ _ _ _ _ _ _ _ _ _ _ _ _ _ _ _ _ _ _ _ _ _ _ _ _ _ _ _ _ _ _ _ _ _ _ _ _ _ _ _ _ _ _ _ _ _ _ _ _ _ _ _ _ _ _ _ _ _ _ _ _ _ _ _ _ _ _ _ _ _ _ _ _ _ _ _ _ _ _ _ _ _ _ _ _ _ _ _ _ _ _ _ _ _ _ _ _ _ _ _ _ _ _ _ _ _ _ _ _ _ _ _ _ _ _ _ _ _ _ _ _ _ _ _ _ _ _ _ _ _ _ _ _ _ _ _ _ _ _ _ _ _ _ _ _ _ _ _ _ _ _ _ _ _ _ _ _ _ _ _ _ _ _ _ _ _ _ _ _ _ _ _ _ _ w0 w4 R m q r1 (k + 1) N x1 x2 x3 l (mkE N x1 x2 x3 pa np pc qa nr qc) va vc hlen' HL4.out Hinc.out HK4.out Hx.out ?_ ?_
        · intro v19 v123 v124 v125 v126 v127 v128 v129 v130 v131 v132 v133 v134 v135 v136 v137 v138 v139 v140 v141 v142 v143 w5 hL5 hln
          have HL5 : Hid _ := hL5
          have Hln : Hid _ := hln
          clear hL5 hln HL4 HK4 hrun4
          dsimp only
          go_wp2
          go_roundw
          case rel => exact ⟨k + 1, upd (mkE N x1 x2 x3 pa np pc qa nr qc) l, va, vc, by omega, by go_num, by rw [Hln.out], HL5⟩
          case measure => simp [intOf]; omega
        · intro v19 v123 v124 v125 v126 v127 v128 v129 v130 v131 v132 v133 v134 v135 v136 v137 v138 v139 v140 v141 v142 v143 w5 hL5 hK5 hne
          have HL5 : Hid _ := hL5
          have HK5 : Hid _ := hK5
          have Hne : Hid _ := hne
          clear hL5 hK5 hne HL4 HK4 hrun4
          dsimp only
          go_wp2
          refine loop5 _ _ _ _ _ _ _ _ _ _ _ _ _ _ _ _ _ _ _ _ _ _ _ _ _ _ _ _ _ _ _ _ _ _ _ _ _ _ _ _ _ _ _ _ _ _ _ _ _ _ _ _ _ _ _ _ _ _ _ _ _ _ _ _ _ _ _ _ _ _ _ _ _ _ _ _ _ _ _ _ _ _ _ _ _ _ _ _ _ _ _ _ _ _ _ _ _ _ _ _ _ _ _ _ _ _ _ _ _ _ _ _ _ _ _ _ _ _ _ _ _ _ _ _ _ _ _ _ _ _ _ _ _ _ _ _ _ _ _ _ _ _ _ _ _ _ _ _ _ _ _ _ _ _ _ _ _ _ _ _ _ _ _ _ _ _ _ _ _ _ _ _ _ _ _ _ _ _ _ _ _ _ _ _ _ _ _ _ _ _ _ _ _ _ _ _ _ _ _ _ _ _ _ _ _ _ _ _ _ _ _ _ _ _ _ _ _ _ _ _ _ _ _ _ _ _ _ _ _ _ _ _ _ _ _ _ _ _ _ _ _ _ _ _ _ _ _ _ _ _ _ _ _ _ _ _ _ _ _ _ _ _ _ _ _ _ _ _ _ _ _ _ w0 w5 R m q r1 (k + 1) N x1 x2 x3 l (mkE N x1 x2 x3 pa np pc qa nr qc) va vc hlen' HL5.out HK5.out Hx.out ?_
          intro v21 v150 v151 v152 v153 v154 v155 v156 v157 v158 v159 v160 v161 p w6 hp hL6 hK6 hlt6 hge6
          have j0 := cell_heap hK6 (o := 0) rfl
          have j1 := cell_heap hK6 (o := 1) rfl
          have j2 := cell_heap hK6 (o := 2) rfl
          have jl := (Array.getElem?_eq_some_iff.1 hK6).1
          have Hu : Hid _ := upd_ins Hne.out p hp hlt6 hge6
          have hB6 := hL6.low.size
          have HL7 : Hid (∀ w7, Below w6.heap.size w6 w7 → LI w0 w7 R m q r1 (k + 1) (upd (mkE N x1 x2 x3 pa np pc qa nr qc) l) l va vc) := fun w7 h7 => hL6.below h7
          obtain ⟨w7, hw7⟩ : ∃ w7, w7 = w6.alloc (.cells #[.int .u64 (x1 : Int), .int .u64 (x2 : Int), .int .u64 (x3 : Int), .int .i64 (np : Int), .int .i64 (nr : Int)] 75) := ⟨_, rfl⟩
          have hb7 : Below w6.heap.size w6 w7 := by rw [hw7]; exact (Below.refl _ _).alloc (Nat.le_refl _) _
          have HIns : Hid _ := insert_any w0.heap.size l.length p w6.heap.size va vc (rowM l) (.int .u64 (x1 : Int)) (.int .u64 (x2 : Int)) (.int .u64 (x3 : Int)) (.int .i64 (np : Int)) (.int .i64 (nr : Int)) w7 hp (by omega) (Nat.le_trans hB6 hb7.size) (HL7.out w7 hb7).own (by rw [hw7]; exact heap_alloc_new _ _) (fun q => by have := (row_lt hL6.own _ q).2; omega) (rowM_one l) (by intro u hu; simp at hu; rcases hu with rfl | rfl | rfl | rfl | rfl <;> rfl)
          have HL8 : Hid _ := HL7.out w7 hb7
          clear hL6 hK6 hlt6 hge6 HL7 HL5 HK5 Hne hb7
          dsimp only
          go_wp2_with fail
          have hw7' : w7 = w6.alloc (.cells #[.int .u64 (x1 : Int), .int .u64 (x2 : Int), .int .u64 (x3 : Int), .int .i64 ((mkE N x1 x2 x3 pa np pc qa nr qc).np : Int), .int .i64 ((mkE N x1 x2 x3 pa np pc qa nr qc).nr : Int)] 75) := hw7
          rw [← hw7']
          clear hw7 hw7'
          refine Calls.mono HIns.out ?_
          rintro e' w8 ⟨va', vc', rfl, ho, hs, hg8⟩
          rw [← Hfive.out] at ho
          have HL9 : Hid _ := HL8.out.ins hp (by omega) Hu.out hg8 hs ho
          clear ho hs hg8 HIns HL8
          go_wp2
          go_roundw
          case rel => exact ⟨k + 1, upd (mkE N x1 x2 x3 pa np pc qa nr qc) l, va', vc', by omega, by go_num, by rw [HL9.out.2], HL9.out.1⟩
          case measure => simp [intOf]; omega
    · obtain rfl : n = k := by omega
      go_wp2
      exact HX.out _ _ _ _ _ _ _ _ _ _ _ _ _ _ _ _ _ _ _ _ _ _ _ _ _ _ _ _ _ _ _ _ _ _ _ _ _ _ _ _ _ _ _ _ _ _ _ _ _ _ _ _ _ _ _ _ _ _ _ _ _ _ _ _ _ _ _ _ _ _ _ _ _ _ _ _ _ _ _ _ _ _ _ _ _ _ _ _ _ _ _ _ _ _ _ _ _ _ _ _ _ _ _ _ _ _ _ _ _ _ _ _ _ _ _ _ _ _ _ _ _ _ _ _ _ _ _ _ _ _ _ _ _ _ _ _ _ _ _ _ _ _ l va vc _ hL.out
end Go.Proofs.Ybulkauni.lawS2296ATells
