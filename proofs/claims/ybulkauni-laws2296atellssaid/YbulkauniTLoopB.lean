import Derived.Test.YbulkauniTLoopA
namespace Go.Proofs.Ybulkauni.lawS2296ATells
open Go.ChangeShapes Go.WideShapes Go.ChangeAt Go.RowKit Go.Maps
open Go.Proofs.Ybulkauni.lawS2296CSendTaken (RowIs clone_any below_drewN bcell)
theorem own_cells {W : World} {B c : Nat} {va : Option Addr} {l : List Ent} (h : W.ownsRow B 75 5 (.slice va l.length c) l.length (rowM l)) {j : Nat} {x : Ent} (hj : l[j]? = some x) :
    ∃ g, va = some ⟨g, 0, none⟩ ∧ B ≤ g ∧ g < W.heap.size ∧ W.cell? ⟨g, j * 5, none⟩ = some (.int .u64 ((x.c / 64 : Nat) : Int)) ∧ W.cell? ⟨g, j * 5 + 1, none⟩ = some (.int .u64 ((x.c / 8 % 8 : Nat) : Int)) ∧ W.cell? ⟨g, j * 5 + 2, none⟩ = some (.int .u64 ((x.c % 8 : Nat) : Int)) ∧ W.cell? ⟨g, j * 5 + 3, none⟩ = some (.int .i64 (x.np : Int)) ∧ W.cell? ⟨g, j * 5 + 4, none⟩ = some (.int .i64 (x.nr : Int)) ∧ ∀ o, W.frozen? ⟨g, o, none⟩ = false := by
  have hjl : j < l.length := (List.getElem?_eq_some_iff.1 hj).1
  rcases h.2 with ⟨-, h0⟩ | ⟨g, cap, cur, hv, hb, hh, h1, h2, h3, h4⟩
  · omega
  · cases hv
    have key : ∀ r, r < 5 → W.cell? ⟨g, j * 5 + r, none⟩ = (five x)[r]? := fun r hr => by
      have e1 := rowM_at hj hr
      rw [← h4, List.getElem?_take, if_pos (by omega)] at e1
      rw [← e1]
      simp [World.cell?, hh]
    exact ⟨g, rfl, hb, (Array.getElem?_eq_some_iff.1 hh).1, key 0 (by omega), key 1 (by omega), key 2 (by omega), key 3 (by omega), key 4 (by omega), fun o => by simp [World.frozen?, hh]⟩
theorem grown_set {W : World} {g o : Nat} {v : Value} : W.grownBy (W.setCell ⟨g, o, none⟩ v) (some g) :=
  ⟨rfl, rfl, rfl, by simp [World.setCell], fun k _ hk => Below.heap_setCell _ _ _ _ (fun e => hk (by rw [e]))⟩
theorem LI.found {w0 W : World} {R m q : Nat} {r1 : Int} {n : Nat} {l : List Ent} {g vc j : Nat} {e x : Ent} (h : LI w0 W R m q r1 n (upd e l) l (some ⟨g, 0, none⟩) vc) (hl : Inc l) (hj : l[j]? = some x) (hc : x.c = e.c) :
    LI w0 ((W.setCell ⟨g, j * 5 + 3, none⟩ (.int .i64 (e.np : Int))).setCell ⟨g, j * 5 + 4, none⟩ (.int .i64 (e.nr : Int))) R m q r1 n (upd e l) (upd e l) (some ⟨g, 0, none⟩) vc := by
  have hu := upd_set hl hj hc
  have ho : ((W.setCell ⟨g, j * 5 + 3, none⟩ (.int .i64 (e.np : Int))).setCell ⟨g, j * 5 + 4, none⟩ (.int .i64 (e.nr : Int))).ownsRow w0.heap.size 75 5 (.slice (some ⟨g, 0, none⟩) (upd e l).length vc) (upd e l).length (rowM (upd e l)) := by
    rw [hu, rowM_set hj e hc, List.length_set]
    exact own_set (own_set h.own _) _
  exact h.turn (grown_set.trans grown_set) (.inl rfl) ho (by rw [hu, List.length_set]; exact h.len)
set_option maxRecDepth 1000000 in
set_option maxHeartbeats 4000000 in
theorem loop4 (u0 u1 u2 u3 u4 u5 u6 u8 u9 u10 u11 u15 u16 u17 u19 u20 u21 u22 u23 u24 u25 u26 u27 u28 u29 u30 u31 u32 u33 u34 u35 u36 u37 u38 u39 u40 u41 u42 u43 u44 u45 u46 u47 u48 u49 u50 u51 u52 u53 u54 u55 u56 u57 u58 u59 u60 u61 u62 u63 u64 u65 u66 u67 u68 u69 u70 u71 u72 u73 u74 u75 u76 u77 u78 u79 u80 u81 u82 u83 u84 u85 u86 u87 u88 u89 u90 u91 u92 u93 u94 u95 u96 u97 u98 u99 u100 u101 u102 u103 u104 u105 u106 u107 u108 u109 u110 u111 u112 u113 u114 u115 u116 u117 u118 u119 u120 u121 u124 u125 u126 u127 u128 u129 u130 u131 u132 u133 u134 u135 u136 u137 u138 u139 u140 u141 u142 u143 u144 u145 u146 u147 u148 u149 u150 u151 u152 u153 u154 u155 u156 u157 u158 u159 u160 u161 u162 u163 u164 u165 u166 u167 u168 u169 u170 u171 u172 u173 u174 u175 u176 u177 u178 u179 u180 u181 u182 u183 u184 u185 u186 u187 u188 u189 u190 u191 u192 u193 u194 u195 u196 u197 u198 u199 u200 u201 u202 u203 u204 u205 u206 u207 u208 u209 u210 u211 u212 u213 u214 u215 u216 u217 u218 u219 u220 u221 u222 u223 u224 u225 u226 u227 u228 u229 u230 u231 u232 u233 u234 u235 u236 u237 u238 u239 u240 u241 u242 u243 u244 u245 u246 u247 u248 u249 u250 u251 u252 u253 u254 u255 u256 u257 u258 u259 u260 u261 u262 u263 u264 u265 u266 u267 u268 u269 u270 u271 u272 u273 u274 u275 u276 : Value) (w0 W : World) (R m q : Nat) (r1 : Int) (n N x1 x2 x3 : Nat) (l : List Ent) (e : Ent) (va : Option Addr) (vc : Nat) (hn : l.length ≤ 1024) (hL : LI w0 W R m q r1 n (upd e l) l va vc) (hi : Inc l) (hK : W.heap[N]? = some (.cells #[.int .u64 (x1 : Int), .int .u64 (x2 : Int), .int .u64 (x3 : Int)] 68 (0, 0))) (hx : x1 = e.c / 64 ∧ x2 = e.c / 8 % 8 ∧ x3 = e.c % 8) {Q : Exit → Act → World → Prop}
    (hX1 : ∀ (v19 v123 v124 v125 v126 v127 v128 v129 v130 v131 v132 v133 v134 v135 v136 v137 v138 v139 v140 v141 v142 v143 : Value) (w' : World), LI w0 w' R m q r1 n (upd e l) (upd e l) va vc → (upd e l).length = l.length → Q (.exit 6) ⟨#[u0, u1, u2, u3, u4, u5, u6, .slice va l.length vc, u8, u9, u10, u11, .pointer (some ⟨N, 0, none⟩), .int .i64 (e.np : Int), .int .i64 (e.nr : Int), u15, u16, u17, .bool true, v19, u20, u21, u22, u23, u24, u25, u26, u27, u28, u29, u30, u31, u32, u33, u34, u35, u36, u37, u38, u39, u40, u41, u42, u43, u44, u45, u46, u47, u48, u49, u50, u51, u52, u53, u54, u55, u56, u57, u58, u59, u60, u61, u62, u63, u64, u65, u66, u67, u68, u69, u70, u71, u72, u73, u74, u75, u76, u77, u78, u79, u80, u81, u82, u83, u84, u85, u86, u87, u88, u89, u90, u91, u92, u93, u94, u95, u96, u97, u98, u99, u100, u101, u102, u103, u104, u105, u106, u107, u108, u109, u110, u111, u112, u113, u114, u115, u116, u117, u118, u119, u120, u121, .int .i64 (l.length : Int), v123, v124, v125, v126, v127, v128, v129, v130, v131, v132, v133, v134, v135, v136, v137, v138, v139, v140, v141, v142, v143, u144, u145, u146, u147, u148, u149, u150, u151, u152, u153, u154, u155, u156, u157, u158, u159, u160, u161, u162, u163, u164, u165, u166, u167, u168, u169, u170, u171, u172, u173, u174, u175, u176, u177, u178, u179, u180, u181, u182, u183, u184, u185, u186, u187, u188, u189, u190, u191, u192, u193, u194, u195, u196, u197, u198, u199, u200, u201, u202, u203, u204, u205, u206, u207, u208, u209, u210, u211, u212, u213, u214, u215, u216, u217, u218, u219, u220, u221, u222, u223, u224, u225, u226, u227, u228, u229, u230, u231, u232, u233, u234, u235, u236, u237, u238, u239, u240, u241, u242, u243, u244, u245, u246, u247, u248, u249, u250, u251, u252, u253, u254, u255, u256, u257, u258, u259, u260, u261, u262, u263, u264, u265, u266, u267, u268, u269, u270, u271, u272, u273, u274, u275, u276], []⟩ w')
    (hX2 : ∀ (v19 v123 v124 v125 v126 v127 v128 v129 v130 v131 v132 v133 v134 v135 v136 v137 v138 v139 v140 v141 v142 v143 : Value) (w' : World), LI w0 w' R m q r1 n (upd e l) l va vc → w'.heap[N]? = some (.cells #[.int .u64 (x1 : Int), .int .u64 (x2 : Int), .int .u64 (x3 : Int)] 68 (0, 0)) → (∀ x ∈ l, x.c ≠ e.c) → Q (.exit 6) ⟨#[u0, u1, u2, u3, u4, u5, u6, .slice va l.length vc, u8, u9, u10, u11, .pointer (some ⟨N, 0, none⟩), .int .i64 (e.np : Int), .int .i64 (e.nr : Int), u15, u16, u17, .bool false, v19, u20, u21, u22, u23, u24, u25, u26, u27, u28, u29, u30, u31, u32, u33, u34, u35, u36, u37, u38, u39, u40, u41, u42, u43, u44, u45, u46, u47, u48, u49, u50, u51, u52, u53, u54, u55, u56, u57, u58, u59, u60, u61, u62, u63, u64, u65, u66, u67, u68, u69, u70, u71, u72, u73, u74, u75, u76, u77, u78, u79, u80, u81, u82, u83, u84, u85, u86, u87, u88, u89, u90, u91, u92, u93, u94, u95, u96, u97, u98, u99, u100, u101, u102, u103, u104, u105, u106, u107, u108, u109, u110, u111, u112, u113, u114, u115, u116, u117, u118, u119, u120, u121, .int .i64 (l.length : Int), v123, v124, v125, v126, v127, v128, v129, v130, v131, v132, v133, v134, v135, v136, v137, v138, v139, v140, v141, v142, v143, u144, u145, u146, u147, u148, u149, u150, u151, u152, u153, u154, u155, u156, u157, u158, u159, u160, u161, u162, u163, u164, u165, u166, u167, u168, u169, u170, u171, u172, u173, u174, u175, u176, u177, u178, u179, u180, u181, u182, u183, u184, u185, u186, u187, u188, u189, u190, u191, u192, u193, u194, u195, u196, u197, u198, u199, u200, u201, u202, u203, u204, u205, u206, u207, u208, u209, u210, u211, u212, u213, u214, u215, u216, u217, u218, u219, u220, u221, u222, u223, u224, u225, u226, u227, u228, u229, u230, u231, u232, u233, u234, u235, u236, u237, u238, u239, u240, u241, u242, u243, u244, u245, u246, u247, u248, u249, u250, u251, u252, u253, u254, u255, u256, u257, u258, u259, u260, u261, u262, u263, u264, u265, u266, u267, u268, u269, u270, u271, u272, u273, u274, u275, u276], []⟩ w') :
    Code.wp Yba.prog (nthLoop 3) Q ⟨#[u0, u1, u2, u3, u4, u5, u6, .slice va l.length vc, u8, u9, u10, u11, .pointer (some ⟨N, 0, none⟩), .int .i64 (e.np : Int), .int .i64 (e.nr : Int), u15, u16, u17, .bool false, u19, u20, u21, u22, u23, u24, u25, u26, u27, u28, u29, u30, u31, u32, u33, u34, u35, u36, u37, u38, u39, u40, u41, u42, u43, u44, u45, u46, u47, u48, u49, u50, u51, u52, u53, u54, u55, u56, u57, u58, u59, u60, u61, u62, u63, u64, u65, u66, u67, u68, u69, u70, u71, u72, u73, u74, u75, u76, u77, u78, u79, u80, u81, u82, u83, u84, u85, u86, u87, u88, u89, u90, u91, u92, u93, u94, u95, u96, u97, u98, u99, u100, u101, u102, u103, u104, u105, u106, u107, u108, u109, u110, u111, u112, u113, u114, u115, u116, u117, u118, u119, u120, u121, .int .i64 (l.length : Int), .int .i64 (0 : Int), u124, u125, u126, u127, u128, u129, u130, u131, u132, u133, u134, u135, u136, u137, u138, u139, u140, u141, u142, u143, u144, u145, u146, u147, u148, u149, u150, u151, u152, u153, u154, u155, u156, u157, u158, u159, u160, u161, u162, u163, u164, u165, u166, u167, u168, u169, u170, u171, u172, u173, u174, u175, u176, u177, u178, u179, u180, u181, u182, u183, u184, u185, u186, u187, u188, u189, u190, u191, u192, u193, u194, u195, u196, u197, u198, u199, u200, u201, u202, u203, u204, u205, u206, u207, u208, u209, u210, u211, u212, u213, u214, u215, u216, u217, u218, u219, u220, u221, u222, u223, u224, u225, u226, u227, u228, u229, u230, u231, u232, u233, u234, u235, u236, u237, u238, u239, u240, u241, u242, u243, u244, u245, u246, u247, u248, u249, u250, u251, u252, u253, u254, u255, u256, u257, u258, u259, u260, u261, u262, u263, u264, u265, u266, u267, u268, u269, u270, u271, u272, u273, u274, u275, u276], []⟩ W := by
  dsimp only at hX1 hX2 ⊢
  conv => arg 2; whnf
  have HL : Hid _ := hL
  have HX1 : Hid _ := hX1
  have HX2 : Hid _ := hX2
  have HI : Hid _ := hi
  have HK : Hid _ := hK
  have Hx : Hid _ := hx
  clear hL hX1 hX2 hi hK hx
  go_loopw [123, 18] (fun sj sf wx => ∃ (j : Nat), j ≤ l.length ∧ sj = .int .i64 j ∧ sf = .bool false ∧ Hid (LI w0 wx R m q r1 n (upd e l) l va vc ∧ wx.heap[N]? = some (.cells #[.int .u64 (x1 : Int), .int .u64 (x2 : Int), .int .u64 (x3 : Int)] 68 (0, 0)) ∧ ∀ i x, i < j → l[i]? = some x → x.c ≠ e.c)) (fun sj _ _ => l.length - (intOf sj).toNat)
  case atStart => exact ⟨0, Nat.zero_le _, rfl, rfl, HL.out, HK.out, fun i x hi => by omega⟩
  case round =>
    obtain ⟨j, hj, rfl, rfl, hI⟩ := hrel
    clear HL HK
    have k0 := cell_heap hI.out.2.1 (o := 0) rfl
    have k1 := cell_heap hI.out.2.1 (o := 1) rfl
    have k2 := cell_heap hI.out.2.1 (o := 2) rfl
    have kl := (Array.getElem?_eq_some_iff.1 hI.out.2.1).1
    by_cases hjl : j < l.length
    · obtain ⟨x, hx⟩ : ∃ x, l[j]? = some x := ⟨l[j], List.getElem?_eq_getElem hjl⟩
      obtain ⟨g, rfl, hg1, hg2, q0, q1, q2, q3, q4, qf⟩ := own_cells hI.out.1.own hx
      have f3 := qf (j * 5 + 3)
      have f4 := qf (j * 5 + 4)
      clear qf
      have Hp : Hid (x.c ≠ e.c → ∀ i x', i < j + 1 → l[i]? = some x' → x'.c ≠ e.c) := fun hne i x' hi hx' => by
        by_cases e1 : i = j
        · subst e1; rw [hx] at hx'; cases hx'; exact hne
        · exact hI.out.2.2 i x' (by omega) hx'
      have Hn : Hid (∀ qn, LI w0 (wr.drewN qn) R m q r1 n (upd e l) l (some ⟨g, 0, none⟩) vc) := fun qn => hI.out.1.below (below_drewN (Below.refl _ _) qn)
      have He : Hid (∀ y1 y2 y3 : Nat, y1 = x.c / 64 → y2 = x.c / 8 % 8 → y3 = x.c % 8 → (¬ (y1 = x1 ∧ y2 = x2 ∧ y3 = x3) → x.c ≠ e.c) ∧ (y1 = x1 → y2 = x2 → y3 = x3 → x.c = e.c)) := fun y1 y2 y3 h1 h2 h3 => by
        obtain ⟨g1, g2, g3⟩ := Hx.out
        refine ⟨fun hne hc => hne ⟨by rw [h1, g1, hc], by rw [h2, g2, hc], by rw [h3, g3, hc]⟩, fun e1 e2 e3 => ?_⟩
        omega
      obtain ⟨y1, hy1⟩ : ∃ y1, y1 = x.c / 64 := ⟨_, rfl⟩
      obtain ⟨y2, hy2⟩ : ∃ y2, y2 = x.c / 8 % 8 := ⟨_, rfl⟩
      obtain ⟨y3, hy3⟩ : ∃ y3, y3 = x.c % 8 := ⟨_, rfl⟩
      have He' : Hid _ := He.out y1 y2 y3 hy1 hy2 hy3
      rw [← hy1] at q0
      rw [← hy2] at q1
      rw [← hy3] at q2
      clear hy1 hy2 hy3 He
      by_cases hy : y1 = x1 ∧ y2 = x2 ∧ y3 = x3
      · obtain ⟨rfl, rfl, rfl⟩ := hy
        have HF : Hid (∀ qn, LI w0 (((wr.drewN qn).setCell ⟨g, j * 5 + 3, none⟩ (.int .i64 (e.np : Int))).setCell ⟨g, j * 5 + 4, none⟩ (.int .i64 (e.nr : Int))) R m q r1 n (upd e l) (upd e l) (some ⟨g, 0, none⟩) vc) := fun qn => (Hn.out qn).found HI.out hx (He'.out.2 rfl rfl rfl)
        have HLn : Hid ((upd e l).length = l.length) := by show _ = _; rw [upd_set HI.out hx (He'.out.2 rfl rfl rfl), List.length_set]
        go_upto_region 31 with fail
        go_quiet (fail)
        go_wp2
        exact HX1.out _ _ _ _ _ _ _ _ _ _ _ _ _ _ _ _ _ _ _ _ _ _ _ (HF.out _) HLn.out
      · have Hp' : Hid _ := Hp.out (He'.out.1 hy)
        have hy' : (y1 : Int) ≠ (x1 : Int) ∨ ((y1 : Int) = (x1 : Int) ∧ (y2 : Int) ≠ (x2 : Int)) ∨ ((y1 : Int) = (x1 : Int) ∧ (y2 : Int) = (x2 : Int) ∧ (y3 : Int) ≠ (x3 : Int)) := by omega
        clear hy
        rcases hy' with hy | ⟨hy, hy'⟩ | ⟨hy, hy', hy''⟩
        all_goals
          go_upto_region 31 with fail
          go_quiet (fail)
          go_wp2
          go_roundw
          case rel => exact ⟨j + 1, by omega, by go_num, rfl, Hn.out _, hI.out.2.1, Hp'.out⟩
          case measure => simp [intOf]; omega
    · have Hp : Hid (∀ x ∈ l, x.c ≠ e.c) := fun x hx => by
        obtain ⟨i, hi, rfl⟩ := List.mem_iff_getElem.1 hx
        exact hI.out.2.2 i _ (by omega) (List.getElem?_eq_getElem hi)
      obtain rfl : l.length = j := by omega
      go_wp2
      exact HX2.out _ _ _ _ _ _ _ _ _ _ _ _ _ _ _ _ _ _ _ _ _ _ wr hI.out.1 hI.out.2.1 Hp.out
set_option maxRecDepth 1000000 in
set_option maxHeartbeats 4000000 in
theorem loop5 (u0 u1 u2 u3 u4 u5 u6 u8 u9 u10 u11 u13 u14 u15 u16 u17 u18 u19 u21 u22 u23 u24 u25 u26 u27 u28 u29 u30 u31 u32 u33 u34 u35 u36 u37 u38 u39 u40 u41 u42 u43 u44 u45 u46 u47 u48 u49 u50 u51 u52 u53 u54 u55 u56 u57 u58 u59 u60 u61 u62 u63 u64 u65 u66 u67 u68 u69 u70 u71 u72 u73 u74 u75 u76 u77 u78 u79 u80 u81 u82 u83 u84 u85 u86 u87 u88 u89 u90 u91 u92 u93 u94 u95 u96 u97 u98 u99 u100 u101 u102 u103 u104 u105 u106 u107 u108 u109 u110 u111 u112 u113 u114 u115 u116 u117 u118 u119 u120 u121 u122 u123 u124 u125 u126 u127 u128 u129 u130 u131 u132 u133 u134 u135 u136 u137 u138 u139 u140 u141 u142 u143 u144 u145 u146 u147 u148 u151 u152 u153 u154 u155 u156 u157 u158 u159 u160 u161 u162 u163 u164 u165 u166 u167 u168 u169 u170 u171 u172 u173 u174 u175 u176 u177 u178 u179 u180 u181 u182 u183 u184 u185 u186 u187 u188 u189 u190 u191 u192 u193 u194 u195 u196 u197 u198 u199 u200 u201 u202 u203 u204 u205 u206 u207 u208 u209 u210 u211 u212 u213 u214 u215 u216 u217 u218 u219 u220 u221 u222 u223 u224 u225 u226 u227 u228 u229 u230 u231 u232 u233 u234 u235 u236 u237 u238 u239 u240 u241 u242 u243 u244 u245 u246 u247 u248 u249 u250 u251 u252 u253 u254 u255 u256 u257 u258 u259 u260 u261 u262 u263 u264 u265 u266 u267 u268 u269 u270 u271 u272 u273 u274 u275 u276 : Value) (w0 W : World) (R m q : Nat) (r1 : Int) (n N x1 x2 x3 : Nat) (l : List Ent) (e : Ent) (va : Option Addr) (vc : Nat) (hn : l.length ≤ 1024) (hL : LI w0 W R m q r1 n (upd e l) l va vc) (hK : W.heap[N]? = some (.cells #[.int .u64 (x1 : Int), .int .u64 (x2 : Int), .int .u64 (x3 : Int)] 68 (0, 0))) (hx : x1 = e.c / 64 ∧ x2 = e.c / 8 % 8 ∧ x3 = e.c % 8) {Q : Exit → Act → World → Prop}
    (hX : ∀ (v21 v150 v151 v152 v153 v154 v155 v156 v157 v158 v159 v160 v161 : Value) (p : Nat) (w' : World), p ≤ l.length → LI w0 w' R m q r1 n (upd e l) l va vc → w'.heap[N]? = some (.cells #[.int .u64 (x1 : Int), .int .u64 (x2 : Int), .int .u64 (x3 : Int)] 68 (0, 0)) → (∀ i x, i < p → l[i]? = some x → ¬ e.c < x.c) → (∀ x, l[p]? = some x → e.c < x.c) → Q (.exit 8) ⟨#[u0, u1, u2, u3, u4, u5, u6, .slice va l.length vc, u8, u9, u10, u11, .pointer (some ⟨N, 0, none⟩), u13, u14, u15, u16, u17, u18, u19, .int .i64 (p : Int), v21, u22, u23, u24, u25, u26, u27, u28, u29, u30, u31, u32, u33, u34, u35, u36, u37, u38, u39, u40, u41, u42, u43, u44, u45, u46, u47, u48, u49, u50, u51, u52, u53, u54, u55, u56, u57, u58, u59, u60, u61, u62, u63, u64, u65, u66, u67, u68, u69, u70, u71, u72, u73, u74, u75, u76, u77, u78, u79, u80, u81, u82, u83, u84, u85, u86, u87, u88, u89, u90, u91, u92, u93, u94, u95, u96, u97, u98, u99, u100, u101, u102, u103, u104, u105, u106, u107, u108, u109, u110, u111, u112, u113, u114, u115, u116, u117, u118, u119, u120, u121, u122, u123, u124, u125, u126, u127, u128, u129, u130, u131, u132, u133, u134, u135, u136, u137, u138, u139, u140, u141, u142, u143, u144, u145, u146, u147, u148, .int .i64 (l.length : Int), v150, v151, v152, v153, v154, v155, v156, v157, v158, v159, v160, v161, u162, u163, u164, u165, u166, u167, u168, u169, u170, u171, u172, u173, u174, u175, u176, u177, u178, u179, u180, u181, u182, u183, u184, u185, u186, u187, u188, u189, u190, u191, u192, u193, u194, u195, u196, u197, u198, u199, u200, u201, u202, u203, u204, u205, u206, u207, u208, u209, u210, u211, u212, u213, u214, u215, u216, u217, u218, u219, u220, u221, u222, u223, u224, u225, u226, u227, u228, u229, u230, u231, u232, u233, u234, u235, u236, u237, u238, u239, u240, u241, u242, u243, u244, u245, u246, u247, u248, u249, u250, u251, u252, u253, u254, u255, u256, u257, u258, u259, u260, u261, u262, u263, u264, u265, u266, u267, u268, u269, u270, u271, u272, u273, u274, u275, u276], []⟩ w') :
    Code.wp Yba.prog (nthLoop 4) Q ⟨#[u0, u1, u2, u3, u4, u5, u6, .slice va l.length vc, u8, u9, u10, u11, .pointer (some ⟨N, 0, none⟩), u13, u14, u15, u16, u17, u18, u19, .int .i64 (l.length : Int), u21, u22, u23, u24, u25, u26, u27, u28, u29, u30, u31, u32, u33, u34, u35, u36, u37, u38, u39, u40, u41, u42, u43, u44, u45, u46, u47, u48, u49, u50, u51, u52, u53, u54, u55, u56, u57, u58, u59, u60, u61, u62, u63, u64, u65, u66, u67, u68, u69, u70, u71, u72, u73, u74, u75, u76, u77, u78, u79, u80, u81, u82, u83, u84, u85, u86, u87, u88, u89, u90, u91, u92, u93, u94, u95, u96, u97, u98, u99, u100, u101, u102, u103, u104, u105, u106, u107, u108, u109, u110, u111, u112, u113, u114, u115, u116, u117, u118, u119, u120, u121, u122, u123, u124, u125, u126, u127, u128, u129, u130, u131, u132, u133, u134, u135, u136, u137, u138, u139, u140, u141, u142, u143, u144, u145, u146, u147, u148, .int .i64 (l.length : Int), .int .i64 (0 : Int), u151, u152, u153, u154, u155, u156, u157, u158, u159, u160, u161, u162, u163, u164, u165, u166, u167, u168, u169, u170, u171, u172, u173, u174, u175, u176, u177, u178, u179, u180, u181, u182, u183, u184, u185, u186, u187, u188, u189, u190, u191, u192, u193, u194, u195, u196, u197, u198, u199, u200, u201, u202, u203, u204, u205, u206, u207, u208, u209, u210, u211, u212, u213, u214, u215, u216, u217, u218, u219, u220, u221, u222, u223, u224, u225, u226, u227, u228, u229, u230, u231, u232, u233, u234, u235, u236, u237, u238, u239, u240, u241, u242, u243, u244, u245, u246, u247, u248, u249, u250, u251, u252, u253, u254, u255, u256, u257, u258, u259, u260, u261, u262, u263, u264, u265, u266, u267, u268, u269, u270, u271, u272, u273, u274, u275, u276], []⟩ W := by
  dsimp only at hX ⊢
  conv => arg 2; whnf
  have HL : Hid _ := hL
  have HX : Hid _ := hX
  have HK : Hid _ := hK
  have Hx : Hid _ := hx
  clear hL hX hK hx
  go_loopw [150, 20] (fun sj sp wx => ∃ (j : Nat), j ≤ l.length ∧ sj = .int .i64 j ∧ sp = .int .i64 (l.length : Int) ∧ Hid (LI w0 wx R m q r1 n (upd e l) l va vc ∧ wx.heap[N]? = some (.cells #[.int .u64 (x1 : Int), .int .u64 (x2 : Int), .int .u64 (x3 : Int)] 68 (0, 0)) ∧ ∀ i x, i < j → l[i]? = some x → ¬ e.c < x.c)) (fun sj _ _ => l.length - (intOf sj).toNat)
  case atStart => exact ⟨0, Nat.zero_le _, rfl, rfl, HL.out, HK.out, fun i x hi => by omega⟩
  case round =>
    obtain ⟨j, hj, rfl, rfl, hI⟩ := hrel
    clear HL HK
    have k0 := cell_heap hI.out.2.1 (o := 0) rfl
    have k1 := cell_heap hI.out.2.1 (o := 1) rfl
    have k2 := cell_heap hI.out.2.1 (o := 2) rfl
    have kl := (Array.getElem?_eq_some_iff.1 hI.out.2.1).1
    by_cases hjl : j < l.length
    · obtain ⟨x, hx⟩ : ∃ x, l[j]? = some x := ⟨l[j], List.getElem?_eq_getElem hjl⟩
      obtain ⟨g, rfl, hg1, hg2, q0, q1, q2, q3, q4, qf⟩ := own_cells hI.out.1.own hx
      clear qf q3 q4
      have Hless : Hid (∀ wx, Calls Yba.prog 7 #[.agg #[.int .u64 (x1 : Int), .int .u64 (x2 : Int), .int .u64 (x3 : Int)], .agg #[.int .u64 ((x.c / 64 : Nat) : Int), .int .u64 ((x.c / 8 % 8 : Nat) : Int), .int .u64 ((x.c % 8 : Nat) : Int)]] wx fun e' w' => e' = .returned (.bool (decide (e.c < x.c))) ∧ Below wx.heap.size wx w') := fun wx => by
        have := less_any ((x1 : Nat) : Int) x2 x3 ((x.c / 64 : Nat) : Int) ((x.c / 8 % 8 : Nat) : Int) ((x.c % 8 : Nat) : Int) wx
        rw [Hx.out.1, Hx.out.2.1, Hx.out.2.2, lessB_is] at this
        rw [Hx.out.1, Hx.out.2.1, Hx.out.2.2]
        exact this
      generalize (x.c / 64) = y1 at *
      generalize (x.c / 8 % 8) = y2 at *
      generalize (x.c % 8) = y3 at *
      have Hlow : Hid (∀ w', Below wr.heap.size wr.drew w' → LI w0 w' R m q r1 n (upd e l) l (some ⟨g, 0, none⟩) vc ∧ w'.heap[N]? = some (.cells #[.int .u64 (x1 : Int), .int .u64 (x2 : Int), .int .u64 (x3 : Int)] 68 (0, 0))) := fun w' hb => ⟨hI.out.1.below ⟨hb.os, hb.tape, hb.output, hb.size, hb.block⟩, (hb.block N kl).trans hI.out.2.1⟩
      by_cases hec : e.c < x.c
      · have Hl : Hid _ := Hless.out wr.drew
        rw [decide_eq_true hec] at Hl
        have Hfin : Hid (∀ z, l[j]? = some z → e.c < z.c) := fun z hz => by rw [hx] at hz; cases hz; exact hec
        clear hec Hless
        go_upto_region 41 with fail
        refine wp_still_tail 6 (by kernel_rfl) (by kernel_rfl) ?_
        simp only [List.take_succ_cons, List.take_zero, List.drop_succ_cons, List.drop_zero]
        repeat still_step
        refine wpStill_nil ?_
        go_wp2_with fail
        refine Calls.mono Hl.out ?_
        rintro e' w1 ⟨rfl, hb1⟩
        have HR : Hid _ := Hlow.out w1 hb1
        clear hb1 Hl Hlow
        go_wp2
        exact HX.out _ _ _ _ _ _ _ _ _ _ _ _ _ j w1 hj HR.out.1 HR.out.2 hI.out.2.2 Hfin.out
      · have Hl : Hid _ := Hless.out wr.drew
        rw [decide_eq_false hec] at Hl
        have Hp : Hid (∀ i z, i < j + 1 → l[i]? = some z → ¬ e.c < z.c) := fun i z hi hz => by
          by_cases e1 : i = j
          · subst e1; rw [hx] at hz; cases hz; exact hec
          · exact hI.out.2.2 i z (by omega) hz
        clear hec Hless
        go_upto_region 41 with fail
        refine wp_still_tail 6 (by kernel_rfl) (by kernel_rfl) ?_
        simp only [List.take_succ_cons, List.take_zero, List.drop_succ_cons, List.drop_zero]
        repeat still_step
        refine wpStill_nil ?_
        go_wp2_with fail
        refine Calls.mono Hl.out ?_
        rintro e' w1 ⟨rfl, hb1⟩
        have HR : Hid _ := Hlow.out w1 hb1
        clear hb1 Hl Hlow
        go_wp2
        go_roundw
        case rel => exact ⟨j + 1, by omega, by go_num, rfl, HR.out.1, HR.out.2, Hp.out⟩
        case measure => simp [intOf]; omega
    · obtain rfl : l.length = j := by omega
      go_wp2
      exact HX.out _ _ _ _ _ _ _ _ _ _ _ _ _ l.length wr (Nat.le_refl _) hI.out.1 hI.out.2.1 hI.out.2.2 (fun x hx => by simp at hx)
end Go.Proofs.Ybulkauni.lawS2296ATells
