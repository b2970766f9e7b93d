import Derived.Test.YbulkauniTLoopB
namespace Go.Proofs.Ybulkauni.lawS2296ATells
open Go.ChangeShapes Go.WideShapes Go.ChangeAt Go.RowKit Go.Maps
open Go.Proofs.Ybulkauni.lawS2296CSendTaken (RowIs clone_any below_drewN bcell)
theorem rowE_at' {es : List (Nat × Value)} {i : Nat} {x : Nat × Value} (h : es[i]? = some x) : (rowE es)[i * 2]? = some (.int .u64 (x.1 : Int)) ∧ (rowE es)[i * 2 + 1]? = some x.2 := by
  have hi : i < es.length := (List.getElem?_eq_some_iff.1 h).1
  have := rowE_at es i hi
  rw [Nat.mul_comm] at this
  have e1 : es.getD i (0, .nilIface) = x := by simp [List.getD_eq_getElem?_getD, h]
  rw [e1] at this
  exact this
theorem env_cells {W : World} {B c n : Nat} {va : Option Addr} {es : List (Nat × Value)} (h : W.ownsRow B 81 2 (.slice va n c) n (rowE es)) (hn : n = es.length) {i : Nat} {x : Nat × Value} (hi : es[i]? = some x) :
    ∃ g, va = some ⟨g, 0, none⟩ ∧ g < W.heap.size ∧ W.cell? ⟨g, i * 2, none⟩ = some (.int .u64 (x.1 : Int)) ∧ W.cell? ⟨g, i * 2 + 1, none⟩ = some x.2 := by
  have hjl : i < es.length := (List.getElem?_eq_some_iff.1 hi).1
  rcases h.2 with ⟨-, h0⟩ | ⟨g, cap, cur, hv, hb, hh, h1, h2, h3, h4⟩
  · omega
  · cases hv
    obtain ⟨e1, e2⟩ := rowE_at' hi
    rw [← h4, List.getElem?_take, if_pos (by omega)] at e1 e2
    exact ⟨g, rfl, (Array.getElem?_eq_some_iff.1 hh).1, by simpa [World.cell?, hh] using e1, by simpa [World.cell?, hh] using e2⟩
theorem split_at {l : List Ent} {k : Nat} {e : Ent} (h : l[k]? = some e) : l = l.take k ++ e :: l.drop (k + 1) := by
  obtain ⟨hk, rfl⟩ := List.getElem?_eq_some_iff.1 h
  rw [List.getElem_cons_drop, List.take_append_drop]
theorem outA_at {l : List Ent} {k : Nat} {e : Ent} (r1 r2 : Int) (h : l[k]? = some e) (hp : 0 < e.np) : (outA r1 r2 l)[(outA r1 r2 (l.take k)).length]? = some (e.c / 64, msgA r1 r2 e.c e.pa e.np e.pc) := by
  have e1 : outA r1 r2 l = outA r1 r2 (l.take k) ++ ((e.c / 64, msgA r1 r2 e.c e.pa e.np e.pc) :: outA r1 r2 (l.drop (k + 1))) := by
    conv => lhs; rw [split_at h]
    unfold outA
    rw [List.flatMap_append, List.flatMap_cons, if_pos hp]
    rfl
  rw [e1, List.getElem?_append_right (Nat.le_refl _), Nat.sub_self]
  rfl
theorem outE_at {l : List Ent} {k : Nat} {e : Ent} (r1 r2 : Int) (h : l[k]? = some e) (hp : 0 < e.nr) : (outE r1 r2 l)[(outE r1 r2 (l.take k)).length]? = some (e.c / 64, msgE r1 r2 e.c e.qa e.nr e.qc) := by
  have e1 : outE r1 r2 l = outE r1 r2 (l.take k) ++ ((e.c / 64, msgE r1 r2 e.c e.qa e.nr e.qc) :: outE r1 r2 (l.drop (k + 1))) := by
    conv => lhs; rw [split_at h]
    unfold outE
    rw [List.flatMap_append, List.flatMap_cons, if_pos hp]
    rfl
  rw [e1, List.getElem?_append_right (Nat.le_refl _), Nat.sub_self]
  rfl
theorem outA_next {l : List Ent} {k : Nat} {e : Ent} (r1 r2 : Int) (h : l[k]? = some e) : (outA r1 r2 (l.take (k + 1))).length = (outA r1 r2 (l.take k)).length + if 0 < e.np then 1 else 0 := by
  rw [take_next h]
  unfold outA
  rw [List.flatMap_append, List.length_append]
  congr 1
  simp only [List.flatMap_cons, List.flatMap_nil, List.append_nil]
  split <;> rfl
theorem outE_next {l : List Ent} {k : Nat} {e : Ent} (r1 r2 : Int) (h : l[k]? = some e) : (outE r1 r2 (l.take (k + 1))).length = (outE r1 r2 (l.take k)).length + if 0 < e.nr then 1 else 0 := by
  rw [take_next h]
  unfold outE
  rw [List.flatMap_append, List.length_append]
  congr 1
  simp only [List.flatMap_cons, List.flatMap_nil, List.append_nil]
  split <;> rfl
/-- What the last loop reads. -/
structure FI (w0 W : World) (q : Nat) (r1 : Int) (l : List Ent) (va : Option Addr) (vc B : Nat) (aa : Option Addr) (ac : Nat) (ea : Option Addr) (ec : Nat) : Prop where
  own : W.ownsRow w0.heap.size 75 5 (.slice va l.length vc) l.length (rowM l)
  a : W.ownsRow B 81 2 (.slice aa (outA r1 1 l).length ac) (outA r1 1 l).length (rowE (outA r1 1 l))
  e : W.ownsRow B 81 2 (.slice ea (outE r1 1 l).length ec) (outE r1 1 l).length (rowE (outE r1 1 l))
  hq : q < W.heap.size
  q0 : W.cell? ⟨q, 0, none⟩ = some (.int .u64 r1)
  q1 : W.cell? ⟨q, 1, none⟩ = some (.int .u64 1)
  ents : ∀ e ∈ l, PRow W e.pa e.np ∧ QRow W e.qa e.nr ∧ e.np ≤ 2 ∧ e.nr ≤ 2
  low : Below w0.heap.size w0 W
theorem FI.below {w0 W W' : World} {q : Nat} {r1 : Int} {l : List Ent} {va : Option Addr} {vc B : Nat} {aa : Option Addr} {ac : Nat} {ea : Option Addr} {ec : Nat} (h : FI w0 W q r1 l va vc B aa ac ea ec) (hb : Below W.heap.size W W') : FI w0 W' q r1 l va vc B aa ac ea ec :=
  ⟨below_ownsRow hb h.own, below_ownsRow hb h.a, below_ownsRow hb h.e, Nat.lt_of_lt_of_le h.hq hb.size, (hb.cell (p := ⟨q, 0, none⟩) h.hq).trans h.q0, (hb.cell (p := ⟨q, 1, none⟩) h.hq).trans h.q1, fun e he => ⟨(h.ents e he).1.keep hb.size (fun g _ hg => hb.block g hg), (h.ents e he).2.1.keep hb.size (fun g _ hg => hb.block g hg), (h.ents e he).2.2⟩, h.low.trans (hb.mono h.low.size)⟩
theorem og_is (c : Nat) : ((og c : Nat) : Int) = if ((c / 8 % 8 : Nat) : Int) = ((c / 64 : Nat) : Int) then 0 else ((c / 8 % 8 : Nat) : Int) := by
  unfold og
  split
  · rw [if_pos (by omega)]; rfl
  · rw [if_neg (by omega)]
set_option maxRecDepth 1000000 in
set_option maxHeartbeats 8000000 in
theorem loop6 (u0 u1 u2 u3 u4 u5 u7 u8 u9 u10 u11 u12 u13 u14 u15 u16 u17 u18 u19 u20 u21 u26 u27 u28 u29 u30 u31 u32 u33 u34 u35 u36 u37 u38 u39 u40 u41 u42 u43 u44 u45 u46 u47 u48 u49 u50 u51 u52 u53 u54 u55 u56 u57 u58 u59 u60 u61 u62 u63 u64 u65 u66 u67 u68 u69 u70 u71 u72 u73 u74 u75 u76 u77 u78 u79 u80 u81 u82 u83 u84 u85 u86 u87 u88 u89 u90 u91 u92 u93 u94 u95 u96 u97 u98 u99 u100 u101 u102 u103 u104 u105 u106 u107 u108 u109 u110 u111 u112 u113 u114 u115 u116 u117 u118 u119 u120 u121 u122 u123 u124 u125 u126 u127 u128 u129 u130 u131 u132 u133 u134 u135 u136 u137 u138 u139 u140 u141 u142 u143 u144 u145 u146 u147 u148 u149 u150 u151 u152 u153 u154 u155 u156 u157 u158 u159 u160 u161 u162 u163 u164 u165 u166 u167 u168 u169 u170 u171 u172 u173 u174 u175 u176 u177 u178 u179 u180 u181 u182 u183 u184 u185 u186 u187 u188 u189 u190 u191 u192 u193 u194 u195 u196 u197 u201 u202 u203 u204 u205 u206 u207 u208 u209 u210 u211 u212 u213 u214 u215 u216 u217 u218 u219 u220 u221 u222 u223 u224 u225 u226 u227 u228 u229 u230 u231 u232 u233 u234 u235 u236 u237 u238 u239 u240 u241 u242 u243 u244 u245 u246 u247 u248 u249 u250 u251 u252 u253 u254 u255 u256 u257 u258 u259 u260 u261 u262 u263 u264 u265 u266 u267 u268 u269 u270 u271 u272 u273 u274 u275 u276 : Value) (w0 W : World) (q : Nat) (r1 : Int) (l : List Ent) (va : Option Addr) (vc B : Nat) (aa : Option Addr) (ac : Nat) (ea : Option Addr) (ec : Nat) (hn : l.length ≤ 1024) (hF : FI w0 W q r1 l va vc B aa ac ea ec) {Q : Exit → Act → World → Prop}
    (hX : ∀ (v4 v27 v200 v201 v202 v203 v204 v205 v206 v207 v208 v209 v210 v211 v212 v213 v214 v215 v216 v217 v218 v219 v220 v221 v222 v223 v224 v225 v226 v227 v228 v229 v230 v231 v232 v233 v234 v235 v236 v237 v238 v239 v240 v241 v242 v243 v244 v245 v246 v247 v248 v249 v250 v251 v252 v253 v254 v255 v256 v257 v258 v259 v260 v261 v262 v263 v264 v265 v266 : Value) (w' : World), FI w0 w' q r1 l va vc B aa ac ea ec → Q (.exit 10) ⟨#[u0, u1, u2, u3, v4, u5, .pointer (some ⟨q, 0, none⟩), u7, u8, u9, u10, u11, u12, u13, u14, u15, u16, u17, u18, u19, u20, u21, .slice aa (outA r1 1 l).length ac, .slice ea (outE r1 1 l).length ec, .int .i64 ((outA r1 1 l).length : Int), .int .i64 ((outE r1 1 l).length : Int), u26, v27, u28, u29, u30, u31, u32, u33, u34, u35, u36, u37, u38, u39, u40, u41, u42, u43, u44, u45, u46, u47, u48, u49, u50, u51, u52, u53, u54, u55, u56, u57, u58, u59, u60, u61, u62, u63, u64, u65, u66, u67, u68, u69, u70, u71, u72, u73, u74, u75, u76, u77, u78, u79, u80, u81, u82, u83, u84, u85, u86, u87, u88, u89, u90, u91, u92, u93, u94, u95, u96, u97, u98, u99, u100, u101, u102, u103, u104, u105, u106, u107, u108, u109, u110, u111, u112, u113, u114, u115, u116, u117, u118, u119, u120, u121, u122, u123, u124, u125, u126, u127, u128, u129, u130, u131, u132, u133, u134, u135, u136, u137, u138, u139, u140, u141, u142, u143, u144, u145, u146, u147, u148, u149, u150, u151, u152, u153, u154, u155, u156, u157, u158, u159, u160, u161, u162, u163, u164, u165, u166, u167, u168, u169, u170, u171, u172, u173, u174, u175, u176, u177, u178, u179, u180, u181, u182, u183, u184, u185, u186, u187, u188, u189, u190, u191, u192, u193, u194, u195, u196, u197, .slice va l.length vc, .int .i64 (l.length : Int), v200, v201, v202, v203, v204, v205, v206, v207, v208, v209, v210, v211, v212, v213, v214, v215, v216, v217, v218, v219, v220, v221, v222, v223, v224, v225, v226, v227, v228, v229, v230, v231, v232, v233, v234, v235, v236, v237, v238, v239, v240, v241, v242, v243, v244, v245, v246, v247, v248, v249, v250, v251, v252, v253, v254, v255, v256, v257, v258, v259, v260, v261, v262, v263, v264, v265, v266, u267, u268, u269, u270, u271, u272, u273, u274, u275, u276], []⟩ w') :
    Code.wp Yba.prog (nthLoop 5) Q ⟨#[u0, u1, u2, u3, u4, u5, .pointer (some ⟨q, 0, none⟩), u7, u8, u9, u10, u11, u12, u13, u14, u15, u16, u17, u18, u19, u20, u21, .slice aa (outA r1 1 l).length ac, .slice ea (outE r1 1 l).length ec, .int .i64 (0 : Int), .int .i64 (0 : Int), u26, u27, u28, u29, u30, u31, u32, u33, u34, u35, u36, u37, u38, u39, u40, u41, u42, u43, u44, u45, u46, u47, u48, u49, u50, u51, u52, u53, u54, u55, u56, u57, u58, u59, u60, u61, u62, u63, u64, u65, u66, u67, u68, u69, u70, u71, u72, u73, u74, u75, u76, u77, u78, u79, u80, u81, u82, u83, u84, u85, u86, u87, u88, u89, u90, u91, u92, u93, u94, u95, u96, u97, u98, u99, u100, u101, u102, u103, u104, u105, u106, u107, u108, u109, u110, u111, u112, u113, u114, u115, u116, u117, u118, u119, u120, u121, u122, u123, u124, u125, u126, u127, u128, u129, u130, u131, u132, u133, u134, u135, u136, u137, u138, u139, u140, u141, u142, u143, u144, u145, u146, u147, u148, u149, u150, u151, u152, u153, u154, u155, u156, u157, u158, u159, u160, u161, u162, u163, u164, u165, u166, u167, u168, u169, u170, u171, u172, u173, u174, u175, u176, u177, u178, u179, u180, u181, u182, u183, u184, u185, u186, u187, u188, u189, u190, u191, u192, u193, u194, u195, u196, u197, .slice va l.length vc, .int .i64 (l.length : Int), .int .i64 (0 : Int), u201, u202, u203, u204, u205, u206, u207, u208, u209, u210, u211, u212, u213, u214, u215, u216, u217, u218, u219, u220, u221, u222, u223, u224, u225, u226, u227, u228, u229, u230, u231, u232, u233, u234, u235, u236, u237, u238, u239, u240, u241, u242, u243, u244, u245, u246, u247, u248, u249, u250, u251, u252, u253, u254, u255, u256, u257, u258, u259, u260, u261, u262, u263, u264, u265, u266, u267, u268, u269, u270, u271, u272, u273, u274, u275, u276], []⟩ W := by
  dsimp only at hX ⊢
  conv => arg 2; whnf
  have HF : Hid _ := hF
  have HX : Hid _ := hX
  clear hF hX
  have hnA : (outA r1 1 l).length ≤ 1024 := Nat.le_trans (outA_len r1 1 l) hn
  have hnE : (outE r1 1 l).length ≤ 1024 := Nat.le_trans (outE_len r1 1 l) hn
  obtain ⟨nA, hA⟩ : ∃ nA, nA = (outA r1 1 l).length := ⟨_, rfl⟩
  obtain ⟨nE, hE⟩ : ∃ nE, nE = (outE r1 1 l).length := ⟨_, rfl⟩
  rw [← hA] at hnA HX ⊢
  rw [← hE] at hnE HX ⊢
  have HnA : Hid _ := hA
  have HnE : Hid _ := hE
  clear hA hE
  go_loopw [200, 24, 25] (fun sj sa se wx => ∃ (k na ne : Nat), k ≤ l.length ∧ sj = .int .i64 k ∧ sa = .int .i64 (na : Int) ∧ se = .int .i64 (ne : Int) ∧ Hid (na = (outA r1 1 (l.take k)).length ∧ ne = (outE r1 1 (l.take k)).length ∧ FI w0 wx q r1 l va vc B aa ac ea ec)) (fun sj _ _ _ => l.length - (intOf sj).toNat)
  case atStart => exact ⟨0, 0, 0, Nat.zero_le _, rfl, rfl, rfl, by simp [outA], by simp [outE], HF.out⟩
  case round =>
    obtain ⟨k, na, ne, hk, rfl, rfl, rfl, hI⟩ := hrel
    clear HF
    obtain ⟨wo, hwo⟩ : ∃ wo, wo = wr := ⟨_, rfl⟩
    subst hwo
    by_cases hkl : k < l.length
    · obtain ⟨x, hx⟩ : ∃ x, l[k]? = some x := ⟨l[k], List.getElem?_eq_getElem hkl⟩
      obtain ⟨g, rfl, hg1, hg2, q0, q1, q2, q3, q4, -⟩ := own_cells hI.out.2.2.own hx
      have hxl : x ∈ l := List.mem_of_getElem? hx
      obtain ⟨-, -, h3, h4⟩ := hI.out.2.2.ents x hxl
      have Hck : Hid (∀ wx, FI w0 wx q r1 l (some ⟨g, 0, none⟩) vc B aa ac ea ec → Calls Yba.prog 10 #[msgA r1 1 x.c x.pa x.np x.pc, .agg #[.int .u64 r1, .int .u64 1], .agg #[.int .u64 ((x.c / 64 : Nat) : Int), .int .u64 ((x.c / 8 % 8 : Nat) : Int), .int .u64 ((x.c % 8 : Nat) : Int), .int .i64 (x.np : Int), .int .i64 (x.nr : Int)], .bool true] wx fun e w' => e = .returned (.bool true) ∧ Below wx.heap.size wx w') := fun wx hwx => check_p r1 1 _ _ _ x.pa x.np x.pc x.nr wx (by omega) (hwx.ents x hxl).1 _ (og_is x.c)
      have Hcq : Hid (∀ wx, FI w0 wx q r1 l (some ⟨g, 0, none⟩) vc B aa ac ea ec → Calls Yba.prog 10 #[msgE r1 1 x.c x.qa x.nr x.qc, .agg #[.int .u64 r1, .int .u64 1], .agg #[.int .u64 ((x.c / 64 : Nat) : Int), .int .u64 ((x.c / 8 % 8 : Nat) : Int), .int .u64 ((x.c % 8 : Nat) : Int), .int .i64 (x.np : Int), .int .i64 (x.nr : Int)], .bool false] wx fun e w' => e = .returned (.bool true) ∧ Below wx.heap.size wx w') := fun wx hwx => check_r r1 1 _ _ _ x.qa x.np x.qc x.nr wx (by omega) (hwx.ents x hxl).2.1 _ (og_is x.c)
      have Hia : Hid (0 < x.np → ∀ wx, FI w0 wx q r1 l (some ⟨g, 0, none⟩) vc B aa ac ea ec → na < nA ∧ ∃ ga, aa = some ⟨ga, 0, none⟩ ∧ ga < wx.heap.size ∧ wx.cell? ⟨ga, na * 2, none⟩ = some (.int .u64 ((x.c / 64 : Nat) : Int)) ∧ wx.cell? ⟨ga, na * 2 + 1, none⟩ = some (msgA r1 1 x.c x.pa x.np x.pc)) := fun h0 wx hwx => by
        have := outA_at r1 1 hx h0
        rw [← hI.out.1] at this
        exact ⟨by rw [HnA.out]; exact (List.getElem?_eq_some_iff.1 this).1, env_cells hwx.a rfl this⟩
      have Hie : Hid (0 < x.nr → ∀ wx, FI w0 wx q r1 l (some ⟨g, 0, none⟩) vc B aa ac ea ec → ne < nE ∧ ∃ ga, ea = some ⟨ga, 0, none⟩ ∧ ga < wx.heap.size ∧ wx.cell? ⟨ga, ne * 2, none⟩ = some (.int .u64 ((x.c / 64 : Nat) : Int)) ∧ wx.cell? ⟨ga, ne * 2 + 1, none⟩ = some (msgE r1 1 x.c x.qa x.nr x.qc)) := fun h0 wx hwx => by
        have := outE_at r1 1 hx h0
        rw [← hI.out.2.1] at this
        exact ⟨by rw [HnE.out]; exact (List.getElem?_eq_some_iff.1 this).1, env_cells hwx.e rfl this⟩
      have Hna : Hid _ := outA_next r1 1 hx
      have Hne : Hid _ := outE_next r1 1 hx
      rw [← hI.out.1] at Hna
      rw [← hI.out.2.1] at Hne
      generalize msgA r1 1 x.c x.pa x.np x.pc = mA at *
      generalize msgE r1 1 x.c x.qa x.nr x.qc = mE at *
      generalize (x.c / 64) = y1 at *
      generalize (x.c / 8 % 8) = y2 at *
      generalize (x.c % 8) = y3 at *
      obtain ⟨wb, hwb⟩ : ∃ wb, wb = wo.alloc (.cells #[.int .u64 (y1 : Int), .int .u64 (y2 : Int), .int .u64 (y3 : Int), .int .i64 (x.np : Int), .int .i64 (x.nr : Int)] 75) := ⟨_, rfl⟩
      have hbb : Below wo.heap.size wo wb := by rw [hwb]; exact (Below.refl _ _).alloc (Nat.le_refl _) _
      have HB : Hid (wb.heap[wo.heap.size]? = some (.cells #[.int .u64 (y1 : Int), .int .u64 (y2 : Int), .int .u64 (y3 : Int), .int .i64 (x.np : Int), .int .i64 (x.nr : Int)] 75)) := by rw [hwb]; exact heap_alloc_new _ _
      have HFb : Hid (FI w0 wb q r1 l (some ⟨g, 0, none⟩) vc B aa ac ea ec) := hI.out.2.2.below hbb
      have hnl : na ≤ 1024 := by have h := List.length_take_le' k l; have := outA_len r1 1 (l.take k); rw [← hI.out.1] at this; omega
      have hnl' : ne ≤ 1024 := by have h := List.length_take_le' k l; have := outE_len r1 1 (l.take k); rw [← hI.out.2.1] at this; omega
      go_upto_if 206 with fail
      rw [← hwb]
      clear hwb hbb q0 q1 q2 q3 q4
      have e0 := cell_heap HB.out (o := 0) rfl
      have e1 := cell_heap HB.out (o := 1) rfl
      have e2 := cell_heap HB.out (o := 2) rfl
      have e3 := cell_heap HB.out (o := 3) rfl
      have e4 := cell_heap HB.out (o := 4) rfl
      have el := (Array.getElem?_eq_some_iff.1 HB.out).1
      go_cut [24] from 201 to 266 (fun s24 wx => ∃ na' : Nat, s24 = .int .i64 (na' : Int) ∧ Hid (na' = (outA r1 1 (l.take (k + 1))).length ∧ FI w0 wx q r1 l (some ⟨g, 0, none⟩) vc B aa ac ea ec ∧ wx.heap[wo.heap.size]? = wb.heap[wo.heap.size]?))
      case first =>
        by_cases h0 : 0 < x.np
        · have h0' : (0 : Int) < (x.np : Int) := by omega
          have s0 := HFb.out.q0
          have s1 := HFb.out.q1
          have sl := HFb.out.hq
          obtain ⟨hal, ga, rfl, z0, z1, z2⟩ := Hia.out h0 wb HFb.out
          have HC : Hid _ := Hck.out wb.drew (HFb.out.below ⟨rfl, rfl, rfl, Nat.le_refl _, fun _ _ => rfl⟩)
          go_upto_region 56 with fail
          refine wp_still_tail 23 (by kernel_rfl) (by kernel_rfl) ?_
          simp only [List.take_succ_cons, List.take_zero, List.drop_succ_cons, List.drop_zero]
          repeat still_step
          refine wpStill_nil ?_
          go_wp2_with fail
          refine Calls.mono HC.out ?_
          rintro e' w1 ⟨rfl, hb1⟩
          have HR : Hid _ := HFb.out.below (W' := w1) ⟨hb1.os, hb1.tape, hb1.output, hb1.size, hb1.block⟩
          have HR2 : Hid (w1.heap[wo.heap.size]? = wb.heap[wo.heap.size]?) := hb1.block _ el
          clear hb1 HC Hck Hcq Hia Hie
          go_wp2
          go_meet
          case rel => exact ⟨na + 1, by go_num, by rw [Hna.out, if_pos h0], HR.out, HR2.out⟩
        · have h0' : ¬ ((0 : Int) < (x.np : Int)) := by omega
          go_wp2
          go_meet
          case rel => exact ⟨na, rfl, by rw [Hna.out, if_neg h0]; rfl, HFb.out, rfl⟩
      case rest =>
        obtain ⟨na', rfl, hR⟩ := hcut
        have hh := hR.out.2.2.trans HB.out
        clear e0 e1 e2 e3 e4 el
        have e0 := cell_heap hh (o := 0) rfl
        have e1 := cell_heap hh (o := 1) rfl
        have e2 := cell_heap hh (o := 2) rfl
        have e3 := cell_heap hh (o := 3) rfl
        have e4 := cell_heap hh (o := 4) rfl
        have el := (Array.getElem?_eq_some_iff.1 hh).1
        clear hh
        by_cases h0 : 0 < x.nr
        · have h0' : (0 : Int) < (x.nr : Int) := by omega
          have s0 := hR.out.2.1.q0
          have s1 := hR.out.2.1.q1
          have sl := hR.out.2.1.hq
          obtain ⟨hal, ga, rfl, z0, z1, z2⟩ := Hie.out h0 wc hR.out.2.1
          have HC : Hid _ := Hcq.out wc.drew (hR.out.2.1.below ⟨rfl, rfl, rfl, Nat.le_refl _, fun _ _ => rfl⟩)
          go_upto_region 60 with fail
          refine wp_still_tail 23 (by kernel_rfl) (by kernel_rfl) ?_
          simp only [List.take_succ_cons, List.take_zero, List.drop_succ_cons, List.drop_zero]
          repeat still_step
          refine wpStill_nil ?_
          go_wp2_with fail
          refine Calls.mono HC.out ?_
          rintro e' w1 ⟨rfl, hb1⟩
          have HR : Hid _ := hR.out.2.1.below (W' := w1) ⟨hb1.os, hb1.tape, hb1.output, hb1.size, hb1.block⟩
          clear hb1 HC Hck Hcq Hia Hie
          go_wp2
          go_roundw
          case rel => exact ⟨k + 1, na', ne + 1, by omega, by go_num, rfl, by go_num, hR.out.1, by rw [Hne.out, if_pos h0], HR.out⟩
          case measure => simp [intOf]; omega
        · have h0' : ¬ ((0 : Int) < (x.nr : Int)) := by omega
          go_wp2
          go_roundw
          case rel => exact ⟨k + 1, na', ne, by omega, by go_num, rfl, rfl, hR.out.1, by rw [Hne.out, if_neg h0]; rfl, hR.out.2.1⟩
          case measure => simp [intOf]; omega
    · obtain rfl : l.length = k := by omega
      obtain rfl : na = nA := by rw [hI.out.1, List.take_length, HnA.out]
      obtain rfl : ne = nE := by rw [hI.out.2.1, List.take_length, HnE.out]
      go_wp2
      exact HX.out _ _ _ _ _ _ _ _ _ _ _ _ _ _ _ _ _ _ _ _ _ _ _ _ _ _ _ _ _ _ _ _ _ _ _ _ _ _ _ _ _ _ _ _ _ _ _ _ _ _ _ _ _ _ _ _ _ _ _ _ _ _ _ _ _ _ _ _ _ _ hI.out.2.2
end Go.Proofs.Ybulkauni.lawS2296ATells
