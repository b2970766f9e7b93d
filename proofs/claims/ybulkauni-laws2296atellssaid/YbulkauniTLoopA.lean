import Derived.Test.YbulkauniTEnt
namespace Go.Proofs.Ybulkauni.lawS2296ATells
open Go.ChangeShapes Go.WideShapes Go.ChangeAt Go.RowKit Go.Maps
open Go.Proofs.Ybulkauni.lawS2296CSendTaken (RowIs clone_any below_drewN bcell)
/-- All loops of a code, in its order. -/
def loopsOf : Code → List Code
  | .loop c => .loop c :: loopsOf c
  | .seq a b => loopsOf a ++ loopsOf b
  | .block _ c => loopsOf c
  | .cond _ a b => loopsOf a ++ loopsOf b
  | _ => []
noncomputable def nthLoop (i : Nat) : Code := ((Yba.f3.body.map loopsOf).getD []).getD i .skip
set_option maxRecDepth 1000000 in
set_option maxHeartbeats 4000000 in
theorem loop2 (u0 u1 u2 u3 u4 u5 u6 u7 u8 u9 u10 u11 u12 u14 u17 u18 u19 u20 u21 u22 u23 u24 u25 u26 u27 u28 u29 u30 u31 u32 u33 u34 u35 u36 u37 u38 u39 u40 u41 u42 u43 u44 u45 u46 u47 u48 u49 u50 u51 u52 u53 u54 u55 u56 u57 u58 u59 u60 u61 u62 u63 u64 u65 u66 u67 u68 u69 u70 u71 u72 u73 u74 u75 u76 u77 u78 u79 u80 u81 u82 u83 u84 u85 u86 u87 u88 u89 u90 u91 u92 u93 u94 u95 u96 u97 u98 u99 u100 u101 u102 u103 u104 u105 u106 u107 u108 u109 u110 u111 u112 u113 u114 u115 u116 u117 u118 u119 u120 u121 u122 u123 u124 u125 u126 u127 u128 u129 u130 u131 u132 u133 u134 u135 u136 u137 u138 u139 u140 u141 u142 u143 u144 u145 u146 u147 u148 u149 u150 u151 u152 u153 u154 u155 u156 u157 u158 u159 u160 u161 u162 u163 u164 u165 u166 u167 u168 u169 u170 u171 u172 u173 u174 u175 u176 u177 u178 u179 u180 u181 u182 u183 u184 u185 u186 u187 u188 u189 u190 u191 u192 u193 u194 u195 u196 u197 u198 u199 u200 u201 u202 u203 u204 u205 u206 u207 u208 u209 u210 u211 u212 u213 u214 u215 u216 u217 u218 u219 u220 u221 u222 u223 u224 u225 u226 u227 u228 u229 u230 u231 u232 u233 u234 u235 u236 u237 u238 u239 u240 u241 u242 u243 u244 u245 u246 u247 u248 u249 u250 u251 u252 u253 u254 u255 u256 u257 u258 u259 u260 u261 u262 u263 u264 u265 u266 u267 u268 u269 u270 u271 u272 u273 u274 u275 u276 : Value) (w W : World) (N x1 x2 x3 np : Nat) (hnp : np ≤ 2) (hE : NewE w W N x1 x2 x3 none 0 0 none 0 0) {Q : Exit → Act → World → Prop}
    (hexit : ∀ (v16 v79 v80 v81 v82 v83 v84 v85 v86 v87 v88 v89 v90 v91 v92 v93 v94 v95 v96 v97 : Value) (pa : Option Addr) (pc : Nat) (w' : World), NewE w w' N x1 x2 x3 pa np pc none 0 0 → Q (.exit 2) ⟨#[u0, u1, u2, u3, u4, u5, u6, u7, u8, u9, u10, u11, u12, .int .i64 (np : Int), u14, .pointer (some ⟨N + 1, 0, none⟩), v16, u17, u18, u19, u20, u21, u22, u23, u24, u25, u26, u27, u28, u29, u30, u31, u32, u33, u34, u35, u36, u37, u38, u39, u40, u41, u42, u43, u44, u45, u46, u47, u48, u49, u50, u51, u52, u53, u54, u55, u56, u57, u58, u59, u60, u61, u62, u63, u64, u65, u66, u67, u68, u69, u70, u71, u72, u73, u74, u75, u76, u77, u78, v79, v80, v81, v82, v83, v84, v85, v86, v87, v88, v89, v90, v91, v92, v93, v94, v95, v96, v97, u98, u99, u100, u101, u102, u103, u104, u105, u106, u107, u108, u109, u110, u111, u112, u113, u114, u115, u116, u117, u118, u119, u120, u121, u122, u123, u124, u125, u126, u127, u128, u129, u130, u131, u132, u133, u134, u135, u136, u137, u138, u139, u140, u141, u142, u143, u144, u145, u146, u147, u148, u149, u150, u151, u152, u153, u154, u155, u156, u157, u158, u159, u160, u161, u162, u163, u164, u165, u166, u167, u168, u169, u170, u171, u172, u173, u174, u175, u176, u177, u178, u179, u180, u181, u182, u183, u184, u185, u186, u187, u188, u189, u190, u191, u192, u193, u194, u195, u196, u197, u198, u199, u200, u201, u202, u203, u204, u205, u206, u207, u208, u209, u210, u211, u212, u213, u214, u215, u216, u217, u218, u219, u220, u221, u222, u223, u224, u225, u226, u227, u228, u229, u230, u231, u232, u233, u234, u235, u236, u237, u238, u239, u240, u241, u242, u243, u244, u245, u246, u247, u248, u249, u250, u251, u252, u253, u254, u255, u256, u257, u258, u259, u260, u261, u262, u263, u264, u265, u266, u267, u268, u269, u270, u271, u272, u273, u274, u275, u276], []⟩ w') :
    Code.wp Yba.prog (nthLoop 1) Q ⟨#[u0, u1, u2, u3, u4, u5, u6, u7, u8, u9, u10, u11, u12, .int .i64 (np : Int), u14, .pointer (some ⟨N + 1, 0, none⟩), .int .i64 (0 : Int), u17, u18, u19, u20, u21, u22, u23, u24, u25, u26, u27, u28, u29, u30, u31, u32, u33, u34, u35, u36, u37, u38, u39, u40, u41, u42, u43, u44, u45, u46, u47, u48, u49, u50, u51, u52, u53, u54, u55, u56, u57, u58, u59, u60, u61, u62, u63, u64, u65, u66, u67, u68, u69, u70, u71, u72, u73, u74, u75, u76, u77, u78, u79, u80, u81, u82, u83, u84, u85, u86, u87, u88, u89, u90, u91, u92, u93, u94, u95, u96, u97, u98, u99, u100, u101, u102, u103, u104, u105, u106, u107, u108, u109, u110, u111, u112, u113, u114, u115, u116, u117, u118, u119, u120, u121, u122, u123, u124, u125, u126, u127, u128, u129, u130, u131, u132, u133, u134, u135, u136, u137, u138, u139, u140, u141, u142, u143, u144, u145, u146, u147, u148, u149, u150, u151, u152, u153, u154, u155, u156, u157, u158, u159, u160, u161, u162, u163, u164, u165, u166, u167, u168, u169, u170, u171, u172, u173, u174, u175, u176, u177, u178, u179, u180, u181, u182, u183, u184, u185, u186, u187, u188, u189, u190, u191, u192, u193, u194, u195, u196, u197, u198, u199, u200, u201, u202, u203, u204, u205, u206, u207, u208, u209, u210, u211, u212, u213, u214, u215, u216, u217, u218, u219, u220, u221, u222, u223, u224, u225, u226, u227, u228, u229, u230, u231, u232, u233, u234, u235, u236, u237, u238, u239, u240, u241, u242, u243, u244, u245, u246, u247, u248, u249, u250, u251, u252, u253, u254, u255, u256, u257, u258, u259, u260, u261, u262, u263, u264, u265, u266, u267, u268, u269, u270, u271, u272, u273, u274, u275, u276], []⟩ W := by
  dsimp only at hexit ⊢
  conv => arg 2; whnf
  have HE0 : Hid _ := hE
  have HX : Hid _ := hexit
  clear hE hexit
  obtain ⟨i73, hi73, hz73, hs73, hy73⟩ := info_parts Yba.info73
  go_loopw [16] (fun sj wx => ∃ (j : Nat) (pa : Option Addr) (pc : Nat), j ≤ np ∧ sj = .int .i64 j ∧ Hid (NewE w wx N x1 x2 x3 pa j pc none 0 0)) (fun sj _ => np - (intOf sj).toNat)
  case atStart => exact ⟨0, none, 0, Nat.zero_le _, rfl, HE0⟩
  case round =>
    obtain ⟨j, pa, pc, hj, rfl, hE⟩ := hrel
    clear HE0
    have p4 := cell_heap hE.out.p (o := 4) rfl
    have pf : wr.frozen? ⟨N + 1, 4, none⟩ = false := by simp [World.frozen?, hE.out.p]
    have pl := (Array.getElem?_eq_some_iff.1 hE.out.p).1
    by_cases hjl : j < np
    · go_wp2_with (at_builtin; refine wpList_append_lies _ rfl _ _ 54 rfl (N + 2) 73 i73 (.agg #[.int .u64 0, .int .i64 0]) 2 16 Yba.underlying54 hi73 hz73 hs73 hy73 rfl (by decide) (.slice pa j pc) j (rowP j) rfl (below_ownsRow ((Below.refl _ _).alloc (Nat.le_refl _) _) hE.out.own) ⟨wr.heap.size, 0, none⟩ 1 1 [.int .u64 ((j : Int) + 10), .int .i64 (j : Int)] rfl rfl (two_cells wr _ _ 73) ?b1 (by decide) ?b2 ?b3 ?b4 (wr.heap.size + 1) ?b5 ?_)
      case b1 => intro u hu; simp at hu; rcases hu with rfl | rfl <;> rfl
      case b2 => unfold maxLen; omega
      case b3 => omega
      case b4 => simp; omega
      case b5 => simp
      intro g cap' w8 hown8 hgrow8 hor hlt8
      rw [sb_own] at hgrow8
      have HE1 : Hid _ := hE.out.stepP _ hgrow8 hown8
      have bp : w8.heap[N + 1]? = wr.heap[N + 1]? := (hgrow8.block _ (by simp; omega) (fun e => by have := (row_lt hE.out.own _ e.symm).1; omega)).trans (Below.heap_alloc wr _ _ pl)
      have p4' := cell_heap (bp.trans hE.out.p) (o := 4) rfl
      have pf' : w8.frozen? ⟨N + 1, 4, none⟩ = false := (World.frozen?_of_block (w := wr) bp).trans pf
      have pl' : N + 1 < w8.heap.size := Nat.lt_of_lt_of_le pl (Nat.le_trans (by simp) hgrow8.size)
      clear hown8 hgrow8 hor hlt8 bp p4 pf
      go_wp2
      go_roundw
      case rel => exact ⟨j + 1, some ⟨g, 0, none⟩, cap', by omega, by go_num, HE1⟩
      case measure => simp [intOf]; omega
    · obtain rfl : np = j := by omega
      go_wp2
      exact HX.out _ _ _ _ _ _ _ _ _ _ _ _ _ _ _ _ _ _ _ _ pa pc wr hE.out
set_option maxRecDepth 1000000 in
set_option maxHeartbeats 4000000 in
theorem loop3 (u0 u1 u2 u3 u4 u5 u6 u7 u8 u9 u10 u11 u12 u13 u16 u18 u19 u20 u21 u22 u23 u24 u25 u26 u27 u28 u29 u30 u31 u32 u33 u34 u35 u36 u37 u38 u39 u40 u41 u42 u43 u44 u45 u46 u47 u48 u49 u50 u51 u52 u53 u54 u55 u56 u57 u58 u59 u60 u61 u62 u63 u64 u65 u66 u67 u68 u69 u70 u71 u72 u73 u74 u75 u76 u77 u78 u79 u80 u81 u82 u83 u84 u85 u86 u87 u88 u89 u90 u91 u92 u93 u94 u95 u96 u97 u98 u99 u100 u101 u102 u103 u104 u105 u106 u107 u108 u109 u110 u111 u112 u113 u114 u115 u116 u117 u118 u119 u120 u121 u122 u123 u124 u125 u126 u127 u128 u129 u130 u131 u132 u133 u134 u135 u136 u137 u138 u139 u140 u141 u142 u143 u144 u145 u146 u147 u148 u149 u150 u151 u152 u153 u154 u155 u156 u157 u158 u159 u160 u161 u162 u163 u164 u165 u166 u167 u168 u169 u170 u171 u172 u173 u174 u175 u176 u177 u178 u179 u180 u181 u182 u183 u184 u185 u186 u187 u188 u189 u190 u191 u192 u193 u194 u195 u196 u197 u198 u199 u200 u201 u202 u203 u204 u205 u206 u207 u208 u209 u210 u211 u212 u213 u214 u215 u216 u217 u218 u219 u220 u221 u222 u223 u224 u225 u226 u227 u228 u229 u230 u231 u232 u233 u234 u235 u236 u237 u238 u239 u240 u241 u242 u243 u244 u245 u246 u247 u248 u249 u250 u251 u252 u253 u254 u255 u256 u257 u258 u259 u260 u261 u262 u263 u264 u265 u266 u267 u268 u269 u270 u271 u272 u273 u274 u275 u276 : Value) (w W : World) (N x1 x2 x3 np nr : Nat) (pa : Option Addr) (pc : Nat) (hnr : nr ≤ 2) (hE : NewE w W N x1 x2 x3 pa np pc none 0 0) {Q : Exit → Act → World → Prop}
    (hexit : ∀ (v17 v98 v99 v100 v101 v102 v103 v104 v105 v106 v107 v108 v109 v110 v111 v112 v113 v114 : Value) (qa : Option Addr) (qc : Nat) (w' : World), NewE w w' N x1 x2 x3 pa np pc qa nr qc → Q (.exit 4) ⟨#[u0, u1, u2, u3, u4, u5, u6, u7, u8, u9, u10, u11, u12, u13, .int .i64 (nr : Int), .pointer (some ⟨N + 1, 0, none⟩), u16, v17, u18, u19, u20, u21, u22, u23, u24, u25, u26, u27, u28, u29, u30, u31, u32, u33, u34, u35, u36, u37, u38, u39, u40, u41, u42, u43, u44, u45, u46, u47, u48, u49, u50, u51, u52, u53, u54, u55, u56, u57, u58, u59, u60, u61, u62, u63, u64, u65, u66, u67, u68, u69, u70, u71, u72, u73, u74, u75, u76, u77, u78, u79, u80, u81, u82, u83, u84, u85, u86, u87, u88, u89, u90, u91, u92, u93, u94, u95, u96, u97, v98, v99, v100, v101, v102, v103, v104, v105, v106, v107, v108, v109, v110, v111, v112, v113, v114, u115, u116, u117, u118, u119, u120, u121, u122, u123, u124, u125, u126, u127, u128, u129, u130, u131, u132, u133, u134, u135, u136, u137, u138, u139, u140, u141, u142, u143, u144, u145, u146, u147, u148, u149, u150, u151, u152, u153, u154, u155, u156, u157, u158, u159, u160, u161, u162, u163, u164, u165, u166, u167, u168, u169, u170, u171, u172, u173, u174, u175, u176, u177, u178, u179, u180, u181, u182, u183, u184, u185, u186, u187, u188, u189, u190, u191, u192, u193, u194, u195, u196, u197, u198, u199, u200, u201, u202, u203, u204, u205, u206, u207, u208, u209, u210, u211, u212, u213, u214, u215, u216, u217, u218, u219, u220, u221, u222, u223, u224, u225, u226, u227, u228, u229, u230, u231, u232, u233, u234, u235, u236, u237, u238, u239, u240, u241, u242, u243, u244, u245, u246, u247, u248, u249, u250, u251, u252, u253, u254, u255, u256, u257, u258, u259, u260, u261, u262, u263, u264, u265, u266, u267, u268, u269, u270, u271, u272, u273, u274, u275, u276], []⟩ w') :
    Code.wp Yba.prog (nthLoop 2) Q ⟨#[u0, u1, u2, u3, u4, u5, u6, u7, u8, u9, u10, u11, u12, u13, .int .i64 (nr : Int), .pointer (some ⟨N + 1, 0, none⟩), u16, .int .i64 (0 : Int), u18, u19, u20, u21, u22, u23, u24, u25, u26, u27, u28, u29, u30, u31, u32, u33, u34, u35, u36, u37, u38, u39, u40, u41, u42, u43, u44, u45, u46, u47, u48, u49, u50, u51, u52, u53, u54, u55, u56, u57, u58, u59, u60, u61, u62, u63, u64, u65, u66, u67, u68, u69, u70, u71, u72, u73, u74, u75, u76, u77, u78, u79, u80, u81, u82, u83, u84, u85, u86, u87, u88, u89, u90, u91, u92, u93, u94, u95, u96, u97, u98, u99, u100, u101, u102, u103, u104, u105, u106, u107, u108, u109, u110, u111, u112, u113, u114, u115, u116, u117, u118, u119, u120, u121, u122, u123, u124, u125, u126, u127, u128, u129, u130, u131, u132, u133, u134, u135, u136, u137, u138, u139, u140, u141, u142, u143, u144, u145, u146, u147, u148, u149, u150, u151, u152, u153, u154, u155, u156, u157, u158, u159, u160, u161, u162, u163, u164, u165, u166, u167, u168, u169, u170, u171, u172, u173, u174, u175, u176, u177, u178, u179, u180, u181, u182, u183, u184, u185, u186, u187, u188, u189, u190, u191, u192, u193, u194, u195, u196, u197, u198, u199, u200, u201, u202, u203, u204, u205, u206, u207, u208, u209, u210, u211, u212, u213, u214, u215, u216, u217, u218, u219, u220, u221, u222, u223, u224, u225, u226, u227, u228, u229, u230, u231, u232, u233, u234, u235, u236, u237, u238, u239, u240, u241, u242, u243, u244, u245, u246, u247, u248, u249, u250, u251, u252, u253, u254, u255, u256, u257, u258, u259, u260, u261, u262, u263, u264, u265, u266, u267, u268, u269, u270, u271, u272, u273, u274, u275, u276], []⟩ W := by
  dsimp only at hexit ⊢
  conv => arg 2; whnf
  have HE0 : Hid _ := hE
  have HX : Hid _ := hexit
  clear hE hexit
  obtain ⟨i22, hi22, hz22, hs22, hy22⟩ := info_parts Yba.info22'
  go_loopw [17] (fun sj wx => ∃ (j : Nat) (qa : Option Addr) (qc : Nat), j ≤ nr ∧ sj = .int .i64 j ∧ Hid (NewE w wx N x1 x2 x3 pa np pc qa j qc)) (fun sj _ => nr - (intOf sj).toNat)
  case atStart => exact ⟨0, none, 0, Nat.zero_le _, rfl, HE0⟩
  case round =>
    obtain ⟨j, qa, qc, hj, rfl, hE⟩ := hrel
    clear HE0
    have p4 := cell_heap hE.out.p (o := 5) rfl
    have pf : wr.frozen? ⟨N + 1, 5, none⟩ = false := by simp [World.frozen?, hE.out.p]
    have pl := (Array.getElem?_eq_some_iff.1 hE.out.p).1
    by_cases hjl : j < nr
    · go_wp2_with (at_builtin; refine wpList_append_lies _ rfl _ _ 26 rfl (N + 2) 22 i22 (.int .u64 0) 1 8 Yba.underlying26 hi22 hz22 hs22 hy22 rfl (by decide) (.slice qa j qc) j (rowQ j) rfl (below_ownsRow ((Below.refl _ _).alloc (Nat.le_refl _) _) hE.out.ownq) ⟨wr.heap.size, 0, none⟩ 1 1 [.int .u64 ((j : Int) + 20)] rfl rfl ?b0 ?b1 (by decide) ?b2 ?b3 ?b4 (wr.heap.size + 1) ?b5 ?_)
      case b0 => intro i u hu; cases i with
        | zero => simp at hu; subst hu; exact (by go_simp)
        | succ i => simp at hu
      case b1 => intro u hu; simp at hu; subst hu; rfl
      case b2 => unfold maxLen; omega
      case b3 => omega
      case b4 => simp; omega
      case b5 => simp
      intro g cap' w8 hown8 hgrow8 hor hlt8
      rw [sb_own] at hgrow8
      have HE1 : Hid _ := hE.out.stepQ _ hgrow8 hown8
      have bp : w8.heap[N + 1]? = wr.heap[N + 1]? := (hgrow8.block _ (by simp; omega) (fun e => by have := (row_lt hE.out.ownq _ e.symm).1; omega)).trans (Below.heap_alloc wr _ _ pl)
      have p4' := cell_heap (bp.trans hE.out.p) (o := 5) rfl
      have pf' : w8.frozen? ⟨N + 1, 5, none⟩ = false := (World.frozen?_of_block (w := wr) bp).trans pf
      have pl' : N + 1 < w8.heap.size := Nat.lt_of_lt_of_le pl (Nat.le_trans (by simp) hgrow8.size)
      clear hown8 hgrow8 hor hlt8 bp p4 pf
      go_wp2
      go_roundw
      case rel => exact ⟨j + 1, some ⟨g, 0, none⟩, cap', by omega, by go_num, HE1⟩
      case measure => simp [intOf]; omega
    · obtain rfl : nr = j := by omega
      go_wp2
      exact HX.out _ _ _ _ _ _ _ _ _ _ _ _ _ _ _ _ _ _ qa qc wr hE.out
end Go.Proofs.Ybulkauni.lawS2296ATells
