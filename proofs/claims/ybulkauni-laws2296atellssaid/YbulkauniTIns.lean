import Derived.Test.YbulkauniTTell
import Derived.Laws.CopyOwn
import Derived.Lib.AppendZerosOnto
import Derived.Lib.Overlaps
import Derived.Laws.Externs
import Derived.Shelf.RegionOpenPlain
namespace Go.Proofs.Ybulkauni.lawS2296ATells
open Go.ChangeShapes Go.WideShapes Go.ChangeAt Go.RowKit Go.Maps Go.Lib
open Go.Proofs.Ybulkauni.lawS2296CSendTaken (RowIs clone_any below_drewN bcell)
theorem Yba.info75 : (Yba.prog.info? 75).map (fun i => (i.zero, i.size, i.bytes)) = some (some (.agg #[.int .u64 0, .int .u64 0, .int .u64 0, .int .i64 0, .int .i64 0]), 5, 40) := by kernel_rfl
theorem size75 : (Yba.prog.info? 75).map (·.size) = some 5 := by kernel_rfl
theorem sizeOf75 (w : World) : (Go.sizeOf 75).run Yba.prog w = .ok 5 w := by kernel_rfl
/-- copy, elements of more than one cell. -/
theorem run_copy_k {P : Program} (w : World) (dT sT ty elem : TypeId) (size g o dLen dCap : Nat) (a : Addr) (sLen sCap : Nat) (cur : Array Value) (t : TypeId) (cs : List Value)
    (hu : P.underlying dT = some (.slice elem)) (hs : (P.info? elem).map (·.size) = some size)
    (hg : w.heap[g]? = some (.cells cur t (0, 0))) (hn : cs.length = Nat.min sLen dLen * size)
    (hsrc : ∀ j v, cs[j]? = some v → w.cell? (a.add j) = some v) (hfit : o + cs.length ≤ cur.size) (h1 : ∀ v ∈ cs, v.oneCell' = true) :
    (Builtin.copy_ #[dT, sT] ty #[.slice (some ⟨g, o, none⟩) dLen dCap, .slice (some a) sLen sCap]).run P w =
      .ok (goInt (Nat.min sLen dLen)) (w.setRow g (splice cur.toList o cs).toArray) := by
  have hl := run_loadCells_list (P := P) w a cs hsrc
  have hst := run_storeCells_at P g o t cs 0 cur w hg (by simpa using hfit) h1
  cases hq : P.info? elem with
  | none => simp [hq] at hs
  | some i =>
    have hi : i.size = size := by simpa [hq] using hs
    simp [Builtin.copy_, run_underlying hu, Builtin.lenOf, Builtin.firstCells, sizeOf, typeInfo, hq, hi, ← hn, hl, hst, splice]
theorem wpList_copy_of {P : Program} {w : World} {ops : Array Oper} {rest : List Oper} {o : Oper} {a : Act} {Q : Exit → Act → World → Prop} (hgd : o.guard = none) (d s : Operand) (t t' : TypeId)
    (ho : o.op = .call { callee := .builtin .copy, args := #[d, s], argTypes := #[t, t'] }) (v u : Value) (hd : a.eval d = v) (hs : a.eval s = u) {v' : Value} {w' : World}
    (hr : (Builtin.copy_ #[t, t'] o.type #[v, u]).run P w = .ok v' w') (h : wpList P ops Q rest (a.put o.dst v') w') : wpList P ops Q (o :: rest) a w := by
  refine wpList_plain hgd fun K hK => ?_
  unfold Oper.wp
  simp [execOp, ho, resolve, invoke, builtin, hd, hs, hr, Result.andThen]
  exact hK _ _ h
theorem step_copy_of {P : Program} {ops : Array Oper} {o : Oper} {a : Act} {w : World} {K : Act → World → Prop} {Q : Exit → Act → World → Prop} {E : Prop}
    (hg : o.guard = none) (d x : Operand) (dT sT : TypeId) (hop : o.op = Op.call { callee := Callee.builtin Builtin.copy, args := #[d, x], argTypes := #[dT, sT] })
    (v u : Value) (hd : a.eval d = v) (hx : a.eval x = u) {v' : Value} {w' : World} (hr : (Builtin.copy_ #[dT, sT] o.type #[v, u]).run P w = .ok v' w') (hK : K (a.put o.dst v') w') :
    if Region.wanted o (yielded ops a.tmps) = true then Oper.wp P o a w K Q else E := by
  rw [if_pos (show Region.wanted o (yielded ops a.tmps) = true by simp [Region.wanted, hg])]
  unfold Oper.wp
  simp [execOp, hop, resolve, invoke, builtin, hd, hx, hr, Result.andThen]
  exact hK
theorem get_five (v0 v1 v2 v3 v4 : Value) (w : World) (vb : Nat) (hv : w.heap[vb]? = some (.cells #[v0, v1, v2, v3, v4] 75 (0, 0))) : ∀ j v, [v0, v1, v2, v3, v4][j]? = some v → w.cell? ((⟨vb, 0, none⟩ : Addr).add j) = some v := by
  intro j v h
  rw [Addr.add_lit]
  simp only [World.cell?, hv]
  simpa using h
set_option maxRecDepth 100000 in
set_option maxHeartbeats 4000000 in
theorem ins_shift (g n c i vb : Nat) (cur : Array Value) (v0 v1 v2 v3 v4 : Value) (w : World) (hi : i < n) (hroom : n + 1 ≤ c) (hn : n ≤ 4096) (hvb : vb ≠ g)
    (hh : w.heap[g]? = some (.cells cur 75 (0, 0))) (hcur : cur.size = c * 5) (hv : w.heap[vb]? = some (.cells #[v0, v1, v2, v3, v4] 75 (0, 0))) (h1 : ∀ u ∈ cur.toList.take (n * 5), u.oneCell' = true) (h2 : ∀ u ∈ [v0, v1, v2, v3, v4], u.oneCell' = true) :
    Calls Yba.prog 8 #[.slice (some ⟨g, 0, none⟩) n c, .int .i64 (i : Int), .slice (some ⟨vb, 0, none⟩) 1 1] w fun e w' => e = .returned (.slice (some ⟨g, 0, none⟩) (n + 1) c) ∧
      w'.heap[g]? = some (.cells (splice (splice cur.toList ((i + 1) * 5) ((cur.toList.take (n * 5)).drop (i * 5))) (i * 5) [v0, v1, v2, v3, v4]).toArray 75 (0, 0)) ∧ w.grownBy w' (some g) := by
  have hov : ∀ off lb cb, (callFunc 21 #[.slice (some ⟨vb, 0, none⟩) 1 1, .slice (some ⟨g, off, none⟩) lb cb]).run Yba.prog w = .ok (.value (.bool false)) w := fun off lb cb => by
    rw [run_callFunc_extern Yba.func21 (by kernel_rfl) (by kernel_rfl) (by kernel_rfl) (e := Extern.SlicesOverlaps.overlaps #[64, 64] #[4]) (by kernel_rfl),
      run_overlaps_apart w 64 4 75 Yba.underlying64 5 sizeOf75 ⟨vb, 0, none⟩ ⟨g, off, none⟩ 1 1 lb cb hvb 75 75 5 (c * 5) (by simp [World.shape?, hv]) (by simp [World.shape?, hh, hcur]) (by omega) (by simp [World.frozen?, hv]) (by simp [World.frozen?, hv])]
    rfl
  obtain ⟨X1, hX1⟩ : ∃ X1, X1 = (cur.toList.take (n * 5)).drop (i * 5) := ⟨_, rfl⟩
  have hl1 : X1.length = (n - i) * 5 := by rw [hX1]; simp; omega
  obtain ⟨L1, hL1⟩ : ∃ L1, L1 = splice cur.toList ((i + 1) * 5) X1 := ⟨_, rfl⟩
  have hL1l : L1.length = c * 5 := by rw [hL1, length_splice _ _ _ (by simp; omega)]; simpa using hcur
  obtain ⟨W1, hW1⟩ : ∃ W1, W1 = w.drew.setRow g L1.toArray := ⟨_, rfl⟩
  have hcp1 : ∀ ty dc sc, (Builtin.copy_ #[64, 64] ty #[.slice (some ⟨g, (i + 1) * 5, none⟩) (n - i) dc, .slice (some ⟨g, i * 5, none⟩) (n + 1 - i) sc]).run Yba.prog w.drew = .ok (goInt (Nat.min (n + 1 - i) (n - i))) W1 := fun ty dc sc => by
    rw [hW1, hL1]
    refine run_copy_k w.drew 64 64 ty 75 5 g _ _ dc _ _ sc cur 75 X1 Yba.underlying64 size75 hh ?_ ?_ ?_ ?_
    · rw [hl1, show Nat.min (n + 1 - i) (n - i) = n - i by simp only [Nat.min_def]; split <;> omega]
    · intro j v hj
      rw [Addr.add_lit]
      rw [hX1, List.getElem?_drop, List.getElem?_take] at hj
      split at hj
      · show w.cell? _ = _
        simp only [World.cell?, hh]
        simpa using hj
      · cases hj
    · rw [hl1, hcur]; omega
    · intro v hv'
      rw [hX1] at hv'
      exact h1 v (List.mem_of_mem_drop hv')
  have hW1g : W1.heap[g]? = some (.cells L1.toArray 75 (0, 0)) := by rw [hW1]; exact setRow_heap w.drew g cur _ _ _ hh
  have hW1v : W1.heap[vb]? = some (.cells #[v0, v1, v2, v3, v4] 75 (0, 0)) := by rw [hW1]; exact (setRow_other w.drew g vb _ hvb).trans hv
  obtain ⟨W2, hW2⟩ : ∃ W2, W2 = W1.setRow g (splice L1 (i * 5) [v0, v1, v2, v3, v4]).toArray := ⟨_, rfl⟩
  have hcp2 : ∀ ty dc, (Builtin.copy_ #[64, 64] ty #[.slice (some ⟨g, i * 5, none⟩) (n + 1 - i) dc, .slice (some ⟨vb, 0, none⟩) 1 1]).run Yba.prog W1 = .ok (goInt (Nat.min 1 (n + 1 - i))) W2 := fun ty dc => by
    rw [hW2]
    refine run_copy_k W1 64 64 ty 75 5 g _ _ dc _ _ 1 L1.toArray 75 [v0, v1, v2, v3, v4] Yba.underlying64 size75 hW1g ?_ (get_five v0 v1 v2 v3 v4 W1 vb hW1v) ?_ h2
    · rw [show Nat.min 1 (n + 1 - i) = 1 by simp only [Nat.min_def]; split <;> omega]; rfl
    · simp; omega
  have HP : Hid (W2.heap[g]? = some (.cells (splice L1 (i * 5) [v0, v1, v2, v3, v4]).toArray 75 (0, 0)) ∧ w.grownBy W2 (some g)) := by
    refine ⟨by rw [hW2]; exact setRow_heap W1 g _ _ _ _ hW1g, ?_⟩
    rw [hW2, hW1]
    exact ⟨rfl, rfl, rfl, by simp, fun k hk hne => by
      have hne' : k ≠ g := fun e => hne (by rw [e])
      exact (setRow_other _ g k _ hne').trans (setRow_other w.drew g k _ hne')⟩
  have hb2 : ¬ (c = i + 1) := by omega
  have hb4 : ¬ (c = i) := by omega
  have hcn : (n : Int) + 1 ≤ (c : Int) := by omega
  have hw1 : IntKind.i64.wrap ((i : Int) + 1) = (i : Int) + 1 := by rw [IntKind.wrap_i64]; omega
  have hp1 : (0 : Int) ≤ (i : Int) + 1 := by omega
  have htn : ((i : Int) + 1).toNat = i + 1 := by omega
  have hin : i ≤ n := by omega
  have hp3 : (i : Int) ≤ (n : Int) + 1 := by omega
  rw [← hX1, ← hL1]
  clear hh hv h1 h2 hW1g hW1v hW2 hW1 hL1 hX1 hL1l hl1 hcur
  go_enter Yba.func8, Yba.ntmps8
  go_wp2_with (simp only [hov])
  go_region_law (refine step_copy_of rfl _ _ 64 64 rfl _ _ (by simp [Act.eval, Act.put]) (by simp [Act.eval, Act.put]) (hcp1 _ _ _) ?_)
  go_wp2_with (at_builtin; refine wpList_copy_of rfl _ _ 64 64 rfl _ _ rfl rfl (hcp2 _ _) ?_)
  go_ret
  exact ⟨rfl, HP.out⟩
set_option maxRecDepth 100000 in
set_option maxHeartbeats 4000000 in
theorem ins_end (B n vb : Nat) (va : Option Addr) (vc : Nat) (xs : List Value) (v0 v1 v2 v3 v4 : Value) (w : World) (hn : n ≤ 4096) (hB : B ≤ w.heap.size)
    (hown : w.ownsRow B 75 5 (.slice va n vc) n xs) (hv : w.heap[vb]? = some (.cells #[v0, v1, v2, v3, v4] 75 (0, 0))) (h2 : ∀ u ∈ [v0, v1, v2, v3, v4], u.oneCell' = true) :
    Calls Yba.prog 8 #[.slice va n vc, .int .i64 (n : Int), .slice (some ⟨vb, 0, none⟩) 1 1] w fun e w' => ∃ va' vc', e = .returned (.slice va' (n + 1) vc') ∧ w'.ownsRow B 75 5 (.slice va' (n + 1) vc') (n + 1) (xs ++ [v0, v1, v2, v3, v4]) ∧ Same w.heap.size (sb va) (sb va') ∧ w.grownBy w' (sb va) := by
  obtain ⟨i0, hi, hz0, hz1, hz2⟩ := info_parts Yba.info75
  have HO : Hid _ := hown
  have HV : Hid _ := get_five v0 v1 v2 v3 v4 w vb hv
  have H2 : Hid _ := h2
  clear hown hv h2
  go_enter Yba.func8, Yba.ntmps8
  go_wp2_with (at_builtin; refine wpList_append_lies _ rfl _ _ 64 rfl B 75 i0 (.agg #[.int .u64 0, .int .u64 0, .int .u64 0, .int .i64 0, .int .i64 0]) 5 40 Yba.underlying64 hi hz0 hz1 hz2 rfl (by decide) (.slice va n vc) n xs rfl HO.out ⟨vb, 0, none⟩ 1 1 [v0, v1, v2, v3, v4] rfl rfl HV.out H2.out (by decide) ?b2 ?b3 hB w.heap.size rfl ?_)
  any_goals (first | omega | (unfold maxLen; omega))
  all_goals
    intro g cap w1 hown1 hgrow1 hor hlt
    rw [sb_own] at hgrow1 hor
    have HP : Hid (w1.ownsRow B 75 5 (.slice (some ⟨g, 0, none⟩) (n + 1) cap) (n + 1) (xs ++ [v0, v1, v2, v3, v4]) ∧ Same w.heap.size (sb va) (sb (some ⟨g, 0, none⟩)) ∧ w.grownBy w1 (sb va)) := ⟨hown1, hor.elim (fun h => .inl h.symm) (fun h => .inr (fun g' e => by have q : g = g' := Option.some.inj e; omega)), hgrow1⟩
    clear hown1 hgrow1 hor hlt
    go_wp2
    go_ret
    exact ⟨some ⟨g, 0, none⟩, cap, rfl, HP.out⟩
/-- What stands ahead of i, then the new element, then the rest. -/
def insAt (xs : List Value) (i : Nat) (vs : List Value) : List Value := xs.take (i * 5) ++ (vs ++ xs.drop (i * 5))
theorem take_splices (cur xs vs : List Value) (n i : Nat) (hi : i < n) (hx : cur.take (n * 5) = xs) (hl : xs.length = n * 5) (hv : vs.length = 5) (hc : (n + 1) * 5 ≤ cur.length) :
    (splice (splice cur ((i + 1) * 5) (xs.drop (i * 5))) (i * 5) vs).take ((n + 1) * 5) = insAt xs i vs := by
  have e1 : (splice cur ((i + 1) * 5) (xs.drop (i * 5))).take (i * 5) = xs.take (i * 5) := by
    rw [← hx]
    simp only [splice]
    rw [List.take_append_of_le_length (by simp; omega), List.take_take, List.take_take]
    congr 1
    omega
  have e2 : (splice cur ((i + 1) * 5) (xs.drop (i * 5))).drop (i * 5 + vs.length) = xs.drop (i * 5) ++ cur.drop ((i + 1) * 5 + (xs.drop (i * 5)).length) := by
    simp only [splice]
    rw [List.drop_append_of_le_length (by simp; omega), List.drop_take]
    rw [show (i + 1) * 5 - (i * 5 + vs.length) = 0 by omega]
    simp
  unfold splice insAt
  unfold splice at e1 e2
  rw [e1, e2, ← List.append_assoc, ← List.append_assoc, ← List.append_assoc]
  rw [List.take_append_of_le_length (by simp; omega), List.take_of_length_le (by simp; omega)]
theorem take_splices' (row xs vs : List Value) (n i : Nat) (hi : i < n) (hx : row.take (i * 5) = xs.take (i * 5)) (hl : xs.length = n * 5) (hv : vs.length = 5) :
    (splice (splice row (i * 5) vs) ((i + 1) * 5) (xs.drop (i * 5))).take ((n + 1) * 5) = insAt xs i vs := by
  have e1 : (splice row (i * 5) vs).take ((i + 1) * 5) = xs.take (i * 5) ++ vs := by
    simp only [splice]
    rw [hx, ← List.append_assoc, List.take_append_of_le_length (by simp; omega), List.take_of_length_le (by simp; omega)]
  unfold splice insAt
  unfold splice at e1
  rw [e1, ← List.append_assoc, List.append_assoc (xs.take (i * 5)), ← List.append_assoc, ← List.append_assoc]
  rw [List.take_append_of_le_length (by simp; omega), List.take_of_length_le (by simp; omega)]
set_option maxRecDepth 100000 in
set_option maxHeartbeats 4000000 in
theorem ins_grow (g n c i vb : Nat) (xs : List Value) (v0 v1 v2 v3 v4 : Value) (w : World) (hi : i < n) (hnc : n ≤ c) (hroom : c < n + 1) (hn : n ≤ 4096) (hvg : vb < w.heap.size) (hgl : g < w.heap.size) (hxl : xs.length = n * 5)
    (hh : ∀ j v, xs[j]? = some v → w.cell? ⟨g, j, none⟩ = some v) (hv : w.heap[vb]? = some (.cells #[v0, v1, v2, v3, v4] 75 (0, 0))) (h1 : ∀ u ∈ xs, u.oneCell' = true) (h2 : ∀ u ∈ [v0, v1, v2, v3, v4], u.oneCell' = true) :
    Calls Yba.prog 8 #[.slice (some ⟨g, 0, none⟩) n c, .int .i64 (i : Int), .slice (some ⟨vb, 0, none⟩) 1 1] w fun e w' => ∃ (G : Nat) (L : List Value), e = .returned (.slice (some ⟨w.heap.size, 0, none⟩) (n + 1) G) ∧ n + 1 ≤ G ∧ G ≤ maxLen ∧ L.length = G * 5 ∧ L.take ((n + 1) * 5) = insAt xs i [v0, v1, v2, v3, v4] ∧
      w'.heap[w.heap.size]? = some (.cells L.toArray 75 (0, 0)) ∧ Below w.heap.size w w' := by
  obtain ⟨i0, hi0, hz0, hzs, hzb⟩ := info_parts Yba.info75
  have hkk : (n : Int) + 1 - (i : Int) = ((n + 1 - i : Nat) : Int) := by omega
  have hik : i + (n + 1 - i) = n + 1 := by omega
  have hold : (Builtin.firstCells i0.size i (.slice (some ⟨g, 0, none⟩) i c)).run Yba.prog w.drew = .ok (xs.take (i * 5)).toArray w.drew := by
    rw [hzs]
    exact run_firstCells_some w.drew 5 i ⟨g, 0, none⟩ i c (xs.take (i * 5)) (by rw [List.length_take]; omega) (fun j v hj => by
      rw [Addr.add_lit, Nat.zero_add]
      rw [List.getElem?_take] at hj
      split at hj
      · exact hh j v hj
      · cases hj)
  obtain ⟨G, hG⟩ : ∃ G, G = grownCap w (n + 1) c 75 := ⟨_, rfl⟩
  obtain ⟨ROW, hROW⟩ : ∃ ROW : Array Value, ROW = (xs.take (i * 5)).toArray ++ Builtin.zeroCells (Value.agg #[.int .u64 0, .int .u64 0, .int .u64 0, .int .i64 0, .int .i64 0]).cells (n + 1 - i) ++ Builtin.zeroCells (Value.agg #[.int .u64 0, .int .u64 0, .int .u64 0, .int .i64 0, .int .i64 0]).cells (G - (n + 1)) := ⟨_, rfl⟩
  obtain ⟨W1, hW1⟩ : ∃ W1, W1 = w.drew.alloc (.cells ROW 75) := ⟨_, rfl⟩
  have hrz : ∀ ty, (Builtin.append_ #[64, 3] ty #[.slice (some ⟨g, 0, none⟩) i c, .int .i64 ((n : Int) + 1 - (i : Int))]).run Yba.prog w = .ok (.slice (some ⟨w.heap.size, 0, none⟩) (n + 1) G) W1 := fun ty => by
    have h := Lib.run_append_grow_zeros (P := Yba.prog) w 64 3 ty 75 i0 _ .i64 .i64 Yba.underlying64 Yba.underlying3 hi0 hz0 (some ⟨g, 0, none⟩) i c (xs.take (i * 5)) hold (n + 1 - i) (by omega) (by omega) (by omega) (by omega) (by rw [hzb]; omega) (by rw [hzb, hik]; exact growslice_fits hroom (by omega))
    rw [hik, ← hG, ← hROW, ← hW1] at h
    rw [hkk]
    exact h
  have hGn : n + 1 ≤ G := by rw [hG]; exact grownCap_ge w _ _ _
  have hGm : G ≤ maxLen := by rw [hG]; exact grownCap_le_maxLen w (n + 1) c 75 (by unfold maxLen; omega)
  have hRl : ROW.size = G * 5 := by
    rw [hROW]
    simp [Builtin.zeroCells, Value.cells]
    omega
  have hRt : ROW.toList.take (i * 5) = xs.take (i * 5) := by
    rw [hROW]
    rw [Array.toList_append, Array.toList_append, List.append_assoc, List.take_append_of_le_length (by simp; omega)]
    show List.take (i * 5) (List.take (i * 5) xs) = _
    rw [List.take_take, Nat.min_self]
  have hW1n : W1.heap[w.heap.size]? = some (.cells ROW 75 (0, 0)) := by rw [hW1]; exact heap_alloc_new w.drew _
  have hb1 : Below w.heap.size w W1 := by rw [hW1]; exact ((Below.refl w.heap.size w).drew).alloc (Nat.le_refl _) _
  obtain ⟨L1, hL1⟩ : ∃ L1, L1 = splice ROW.toList (i * 5) [v0, v1, v2, v3, v4] := ⟨_, rfl⟩
  have hL1l : L1.length = G * 5 := by rw [hL1, length_splice _ _ _ (by simp; omega)]; simpa using hRl
  obtain ⟨W2, hW2⟩ : ∃ W2, W2 = W1.setRow w.heap.size L1.toArray := ⟨_, rfl⟩
  have hcp1 : ∀ ty dc, (Builtin.copy_ #[64, 64] ty #[.slice (some ⟨w.heap.size, i * 5, none⟩) (n + 1 - i) dc, .slice (some ⟨vb, 0, none⟩) 1 1]).run Yba.prog W1 = .ok (goInt (Nat.min 1 (n + 1 - i))) W2 := fun ty dc => by
    rw [hW2, hL1]
    refine run_copy_k W1 64 64 ty 75 5 w.heap.size _ _ dc _ _ 1 ROW 75 [v0, v1, v2, v3, v4] Yba.underlying64 size75 hW1n ?_ (get_five v0 v1 v2 v3 v4 W1 vb ((hb1.block vb hvg).trans hv)) ?_ h2
    · rw [show Nat.min 1 (n + 1 - i) = 1 by simp only [Nat.min_def]; split <;> omega]; rfl
    · simp; omega
  have hW2n : W2.heap[w.heap.size]? = some (.cells L1.toArray 75 (0, 0)) := by rw [hW2]; exact setRow_heap W1 _ _ _ _ _ hW1n
  have hb2 : Below w.heap.size w W2 := by rw [hW2]; exact below_setRow hb1 (Nat.le_refl _) _
  obtain ⟨L2, hL2⟩ : ∃ L2, L2 = splice L1 ((i + 1) * 5) (xs.drop (i * 5)) := ⟨_, rfl⟩
  have hL2l : L2.length = G * 5 := by rw [hL2, length_splice _ _ _ (by simp; omega)]; exact hL1l
  obtain ⟨W3, hW3⟩ : ∃ W3, W3 = W2.drew.setRow w.heap.size L2.toArray := ⟨_, rfl⟩
  have hcp2 : ∀ ty dc sc, (Builtin.copy_ #[64, 64] ty #[.slice (some ⟨w.heap.size, (i + 1) * 5, none⟩) (n - i) dc, .slice (some ⟨g, i * 5, none⟩) (n - i) sc]).run Yba.prog W2.drew = .ok (goInt (Nat.min (n - i) (n - i))) W3 := fun ty dc sc => by
    rw [hW3, hL2]
    refine run_copy_k W2.drew 64 64 ty 75 5 w.heap.size _ _ dc _ _ sc L1.toArray 75 (xs.drop (i * 5)) Yba.underlying64 size75 hW2n ?_ ?_ ?_ ?_
    · rw [show Nat.min (n - i) (n - i) = n - i by simp only [Nat.min_def]; split <;> omega, List.length_drop]; omega
    · intro j v hj
      rw [Addr.add_lit]
      rw [List.getElem?_drop] at hj
      exact (hb2.drew.cell (p := ⟨g, i * 5 + j, none⟩) hgl).trans (hh _ v hj)
    · simp; omega
    · intro v hv'
      exact h1 v (List.mem_of_mem_drop hv')
  have HP : Hid (L2.length = G * 5 ∧ L2.take ((n + 1) * 5) = insAt xs i [v0, v1, v2, v3, v4] ∧ W3.heap[w.heap.size]? = some (.cells L2.toArray 75 (0, 0)) ∧ Below w.heap.size w W3) := by
    refine ⟨hL2l, ?_, by rw [hW3]; exact setRow_heap W2.drew _ _ _ _ _ hW2n, by rw [hW3]; exact below_setRow hb2.drew (Nat.le_refl _) _⟩
    rw [hL2, hL1]
    exact take_splices' ROW.toList xs _ n i hi hRt hxl rfl
  have hGm' : Hid _ := hGm
  have hw1 : IntKind.i64.wrap ((i : Int) + 1) = (i : Int) + 1 := by rw [IntKind.wrap_i64]; omega
  have hp1 : (0 : Int) ≤ (i : Int) + 1 := by omega
  have htn : ((i : Int) + 1).toNat = i + 1 := by omega
  have hin : i ≤ n := by omega
  have hp3 : (i : Int) ≤ (n : Int) := by omega
  have hGi : ¬ (G = i) := by omega
  have hGim : ¬ (G = i + 1) := by omega
  have hci : ¬ (c = i) := by omega
  have hz3 : (c : Int) < (n : Int) + 1 := by omega
  have hni : ¬ ((i : Int) = (n : Int)) := by omega
  clear hkk hik hold hROW hG hRl hRt hW1n hb1 hW1 hL1 hL1l hW2 hW2n hb2 hL2 hL2l hW3 hh hv h1 h2 hGm hz0 hzs hzb
  go_enter Yba.func8, Yba.ntmps8
  go_wp2_with (first
    | (at_builtin; refine Lib.wpList_append_run _ rfl _ _ _ _ rfl _ _ rfl rfl _ _ (hrz _) ?_)
    | (at_builtin; refine wpList_copy_of rfl _ _ 64 64 rfl _ _ rfl rfl (hcp1 _ _) ?_))
  go_region_law (refine step_copy_of rfl _ _ 64 64 rfl _ _ (by simp [Act.eval, Act.put]) (by simp [Act.eval, Act.put]) (hcp2 _ _ _) ?_)
  go_wp2
  go_ret
  exact ⟨G, L2, rfl, hGn, hGm'.out, HP.out⟩
theorem insert_any (B n i vb : Nat) (va : Option Addr) (vc : Nat) (xs : List Value) (v0 v1 v2 v3 v4 : Value) (w : World) (hi : i ≤ n) (hn : n ≤ 4096) (hB : B ≤ w.heap.size)
    (hown : w.ownsRow B 75 5 (.slice va n vc) n xs) (hv : w.heap[vb]? = some (.cells #[v0, v1, v2, v3, v4] 75 (0, 0))) (hvb : sb va ≠ some vb) (h1 : ∀ u ∈ xs, u.oneCell' = true) (h2 : ∀ u ∈ [v0, v1, v2, v3, v4], u.oneCell' = true) :
    Calls Yba.prog 8 #[.slice va n vc, .int .i64 (i : Int), .slice (some ⟨vb, 0, none⟩) 1 1] w fun e w' => ∃ va' vc', e = .returned (.slice va' (n + 1) vc') ∧ w'.ownsRow B 75 5 (.slice va' (n + 1) vc') (n + 1) (insAt xs i [v0, v1, v2, v3, v4]) ∧ Same w.heap.size (sb va) (sb va') ∧ w.grownBy w' (sb va) := by
  have hxl := hown.1
  have hil : (insAt xs i [v0, v1, v2, v3, v4]).length = (n + 1) * 5 := by simp [insAt]; omega
  by_cases e : i = n
  · subst e
    have : insAt xs i [v0, v1, v2, v3, v4] = xs ++ [v0, v1, v2, v3, v4] := by
      unfold insAt
      rw [List.take_of_length_le (by omega), List.drop_of_length_le (by omega), List.append_nil]
    rw [this]
    exact ins_end B i vb va vc xs v0 v1 v2 v3 v4 w hn hB hown hv h2
  · have hi' : i < n := by omega
    rcases hown.2 with ⟨-, h0⟩ | ⟨g, cap, cur, hva, hBg, hh, hnc, hcm, hcs, hct⟩
    · omega
    · cases hva
      have hgl : g < w.heap.size := (Array.getElem?_eq_some_iff.1 hh).1
      have hvl : vb < w.heap.size := (Array.getElem?_eq_some_iff.1 hv).1
      by_cases hr : n + 1 ≤ vc
      · refine (ins_shift g n vc i vb cur v0 v1 v2 v3 v4 w hi' hr hn (fun q => hvb (by rw [q]; rfl)) hh hcs hv (by rw [hct]; exact h1) h2).mono ?_
        rintro e w' ⟨rfl, h3, h4⟩
        rw [hct] at h3
        refine ⟨_, _, rfl, ⟨hil, .inr ⟨g, vc, _, rfl, hBg, h3, hr, hcm, ?_, ?_⟩⟩, .inl rfl, h4⟩
        · rw [List.size_toArray, length_splice, length_splice]
          · simpa using hcs
          · simp; omega
          · rw [length_splice _ _ _ (by simp; omega)]; simp; omega
        · exact take_splices cur.toList xs _ n i hi' hct hxl rfl (by simp; omega)
      · refine (ins_grow g n vc i vb xs v0 v1 v2 v3 v4 w hi' hnc (by omega) hn hvl hgl hxl ?_ hv h1 h2).mono ?_
        · intro j v hj
          rw [← hct, List.getElem?_take] at hj
          split at hj
          · simp only [World.cell?, hh]
            simpa using hj
          · cases hj
        · rintro e w' ⟨G, L, rfl, h3, h4, h5, h6, h7, h8⟩
          refine ⟨_, _, rfl, ⟨hil, .inr ⟨w.heap.size, G, L.toArray, rfl, hB, h7, h3, h4, by simpa using h5, by simpa using h6⟩⟩, .inr (fun g' q => by have : w.heap.size = g' := Option.some.inj q; omega), ⟨h8.os, h8.tape, h8.output, h8.size, fun k hk _ => h8.block k hk⟩⟩
end Go.Proofs.Ybulkauni.lawS2296ATells
