import Derived.Test.YbulkauniTNew
namespace Go.Proofs.Ybulkauni.lawS2296ATells
open Go.ChangeShapes Go.WideShapes Go.ChangeAt Go.RowKit Go.Maps
open Go.Proofs.Ybulkauni.lawS2296CSendTaken (RowIs clone_any below_drewN bcell)
/-- The cells of the new Replica. -/
def rep (sl : Value) (m5 m13 m14 m15 m17 m : Nat) : Array Value := #[.int .u64 1, sl, .int .u64 0, .int .u64 1, .bool true, .int .u64 0, .map (some m5), .map none, .bool false, .bool false, .bool false, .int .u64 0, .int .u64 0, .int .u64 0, .int .u64 0, .int .i64 0, .int .u64 0, .int .u64 0, .int .i64 0, .slice none 0 0, .map none, .slice none 0 0, .int .i64 0, .int .i64 0, .int .u8 0, .int .u8 0, .slice none 0 0, .int .i64 0, .bool false, .bool false, .bool false, .map (some m13), .map (some m14), .int .u64 0, .map (some m15), .int .u64 1, .map (some m17), .int .u64 0, .bool false, .int .u64 0, .int .u64 0, .map none, .int .u64 0, .int .u64 0, .int .u64 0, .int .u64 0, .int .i64 0, .int .i64 0, .int .i64 0, .slice none 0 0, .slice none 0 0, .map none, .map (some m), .int .i64 0, .int .u64 0, .map none, .slice none 0 0, .bool false, .int .i64 0, .slice none 0 0, .pointer none, .pointer none, .slice none 0 0, .slice none 0 0, .slice none 0 0, .slice none 0 0, .slice none 0 0, .map none, .slice none 0 0, .map none, .slice none 0 0, .map none, .slice none 0 0, .map none, .bool false, .int .i64 0, .int .i64 0, .int .i64 0]
/-- What operation j leaves in its slot. -/
def G (g B : Nat) (w : World) (v : Value) : Nat → Prop
  | 0 => v = .int .u64 1
  | 1 => v = .slice (some ⟨g, 0, none⟩) 1 1
  | 2 => ∃ a c, v = .slice a 1 c
  | 3 => v = .int .u64 1
  | 4 => v = .agg #[.int .u64 0, .int .u64 1]
  | 5 => ∃ m, v = .map (some m)
  | 6 => v = .agg #[.int .u64 0, .int .u64 0, .int .u64 0, .int .u64 0, .int .i64 0, .int .u64 0, .int .u64 0]
  | 7 => v = .int .i64 0
  | 8 => v = .slice none 0 0
  | 9 => v = .slice none 0 0
  | 10 => v = .pointer (some ⟨B, 4, none⟩)
  | 11 => v = .int .i64 0
  | 12 => v = .agg #[.int .i64 0, .slice none 0 0, .map none, .slice none 0 0, .int .i64 0, .int .i64 0]
  | 13 => ∃ m, v = .map (some m)
  | 14 => ∃ m, v = .map (some m)
  | 15 => ∃ m, v = .map (some m)
  | 16 => v = .int .u64 1
  | 17 => ∃ m, v = .map (some m)
  | 18 => ∃ m, v = .map (some m) ∧ B ≤ m ∧ w.heap[m]? = some (.map #[] 0)
  | 19 => v = .int .i64 0
  | 20 => v = .slice none 0 0
  | 21 => v = .int .i64 0
  | 22 => v = .int .i64 0
  | 23 => v = .int .i64 0
  | 24 => v = .slice none 0 0
  | 25 => v = .int .i64 0
  | 26 => v = .int .i64 0
  | 27 => ∃ sl m5 m13 m14 m15 m17 m, v = .agg (rep sl m5 m13 m14 m15 m17 m) ∧ B ≤ m ∧ w.heap[m]? = some (.map #[] 0)
  | 28 => ∃ R sl m5 m13 m14 m15 m17 m, v = .pointer (some ⟨R, 0, none⟩) ∧ B ≤ R ∧ w.heap[R]? = some (.cells (rep sl m5 m13 m14 m15 m17 m) 63 (0, 0)) ∧ B ≤ m ∧ w.heap[m]? = some (.map #[] 0)
  | _ => True
def NInv (g B : Nat) (W0 : World) (listed : Array Bool) (a : Act) (w : World) : Prop :=
  ∃ (f : Nat → Value) (r : Value), a = { tmps := #[.int .u64 1, .int .u64 1, .slice (some ⟨g, 0, none⟩) 1 1, .agg #[.int .u64 0, .int .u64 0, .int .u64 0, .int .u64 0, .int .i64 0, .int .u64 0, .int .u64 0], .int .i64 0, .slice none 0 0, .slice none 0 0, undef, undef, undef, .pointer (some ⟨B, 0, none⟩), undef, undef, undef, r, .slice (some ⟨g, 0, none⟩) 1 1, .int .u64 1, .bool true, .bool false, undef, .pointer (some ⟨B, 4, none⟩), .int .i64 0, .int .i64 0, .bool false, .bool false, .pointer (some ⟨B, 4, none⟩), .int .i64 0, .int .i64 0, .slice none 0 0, .int .i64 0, .int .i64 0, .bool false, .bool false, undef, f 34, f 35, f 36, f 37, f 38, f 39, f 40, f 41, f 42, f 43, f 44, f 45, f 46, f 47, f 48, f 49, f 50, f 51, f 52, f 53, f 54, f 55, f 56, f 57, f 58, f 59, f 60, f 61, f 62], defers := [] } ∧ Below W0.heap.size W0 w ∧ (∀ j, j < 29 → listed.getD j false = true → G g B w (f (34 + j)) j) ∧ (listed.getD 29 false = true → G g B w r 28)
theorem heap_keep {w w' : World} {m : Nat} {o : Obj} (h : w.heap[m]? = some o) (hb : Below w.heap.size w w') : w'.heap[m]? = some o := (hb.block m (Array.getElem?_eq_some_iff.1 h).1).trans h
theorem G_keep {g B : Nat} {w w' : World} {v : Value} (hb : Below w.heap.size w w') : ∀ j, G g B w v j → G g B w' v j := by
  intro j h
  unfold G at h ⊢
  split at h <;> first | exact h | skip
  · obtain ⟨m, h1, h2, h3⟩ := h; exact ⟨m, h1, h2, heap_keep h3 hb⟩
  · obtain ⟨sl, m5, m13, m14, m15, m17, m, h1, h2, h3⟩ := h; exact ⟨sl, m5, m13, m14, m15, m17, m, h1, h2, heap_keep h3 hb⟩
  · obtain ⟨R, sl, m5, m13, m14, m15, m17, m, h1, h2, h3, h4, h5⟩ := h; exact ⟨R, sl, m5, m13, m14, m15, m17, m, h1, h2, heap_keep h3 hb, h4, heap_keep h5 hb⟩
theorem getD_set {listed : Array Bool} {i j : Nat} (h : (listed.setIfInBounds i true).getD j false = true) : j = i ∨ listed.getD j false = true := by
  by_cases e : j = i
  · exact .inl e
  · right
    have : i ≠ j := fun e' => e e'.symm
    rw [Array.getD_eq_getD_getElem?] at h ⊢
    rw [Array.getElem?_setIfInBounds_ne this] at h
    exact h
/-- One operation more. -/
theorem NInv.step {g B : Nat} {W0 w w' : World} {listed : Array Bool} {f : Nat → Value} {r : Value} (i : Nat) (v : Value) (hb : Below W0.heap.size W0 w) (hG : ∀ j, j < 29 → listed.getD j false = true → G g B w (f (34 + j)) j) (hr : listed.getD 29 false = true → G g B w r 28)
    (hw : Below w.heap.size w w') (hv : G g B w' v i) (hi : i < 29) (a' : Act) (ha : a' = { tmps := #[.int .u64 1, .int .u64 1, .slice (some ⟨g, 0, none⟩) 1 1, .agg #[.int .u64 0, .int .u64 0, .int .u64 0, .int .u64 0, .int .i64 0, .int .u64 0, .int .u64 0], .int .i64 0, .slice none 0 0, .slice none 0 0, undef, undef, undef, .pointer (some ⟨B, 0, none⟩), undef, undef, undef, r, .slice (some ⟨g, 0, none⟩) 1 1, .int .u64 1, .bool true, .bool false, undef, .pointer (some ⟨B, 4, none⟩), .int .i64 0, .int .i64 0, .bool false, .bool false, .pointer (some ⟨B, 4, none⟩), .int .i64 0, .int .i64 0, .slice none 0 0, .int .i64 0, .int .i64 0, .bool false, .bool false, undef, (fun k => if k = 34 + i then v else f k) 34, (fun k => if k = 34 + i then v else f k) 35, (fun k => if k = 34 + i then v else f k) 36, (fun k => if k = 34 + i then v else f k) 37, (fun k => if k = 34 + i then v else f k) 38, (fun k => if k = 34 + i then v else f k) 39, (fun k => if k = 34 + i then v else f k) 40, (fun k => if k = 34 + i then v else f k) 41, (fun k => if k = 34 + i then v else f k) 42, (fun k => if k = 34 + i then v else f k) 43, (fun k => if k = 34 + i then v else f k) 44, (fun k => if k = 34 + i then v else f k) 45, (fun k => if k = 34 + i then v else f k) 46, (fun k => if k = 34 + i then v else f k) 47, (fun k => if k = 34 + i then v else f k) 48, (fun k => if k = 34 + i then v else f k) 49, (fun k => if k = 34 + i then v else f k) 50, (fun k => if k = 34 + i then v else f k) 51, (fun k => if k = 34 + i then v else f k) 52, (fun k => if k = 34 + i then v else f k) 53, (fun k => if k = 34 + i then v else f k) 54, (fun k => if k = 34 + i then v else f k) 55, (fun k => if k = 34 + i then v else f k) 56, (fun k => if k = 34 + i then v else f k) 57, (fun k => if k = 34 + i then v else f k) 58, (fun k => if k = 34 + i then v else f k) 59, (fun k => if k = 34 + i then v else f k) 60, (fun k => if k = 34 + i then v else f k) 61, (fun k => if k = 34 + i then v else f k) 62], defers := [] }) : NInv g B W0 (listed.setIfInBounds i true) a' w' := by
  refine ⟨fun k => if k = 34 + i then v else f k, r, ha, hb.trans (hw.mono hb.size), fun j hj hl => ?_, fun hl => ?_⟩
  · rcases getD_set hl with rfl | h
    · simpa using hv
    · by_cases e : j = i
      · subst e; simpa using hv
      · have : ¬ (34 + j = 34 + i) := by omega
        simp only [this, if_false]
        exact G_keep hw j (hG j hj h)
  · rcases getD_set hl with e | h
    · omega
    · exact G_keep hw 28 (hr h)
theorem step_value {P : Program} {ops : Array Oper} {Q : Exit → Act → World → Prop} {i : Nat} {o : Oper} {a : Act} {w w' : World} {v : Value} {K : Act → World → Prop} (hi : ops[i]? = some o) (hg : o.guard = none)
    (hr : (execOp a.eval o).run P w = .ok (.value v) w') (hK : K (a.put o.dst v) w') : wpOp P ops Q i K a w := by
  unfold wpOp
  rw [hi]
  have hw : Region.wanted o (yielded ops a.tmps) = true := by unfold Region.wanted; rw [hg]
  simp only [hw, if_true]
  left
  unfold Oper.wp
  rw [hr]
  exact hK
theorem step_call {P : Program} {ops : Array Oper} {Q : Exit → Act → World → Prop} {i : Nat} {o : Oper} {a : Act} {w : World} {f : FuncId} {args : Array Value} {K : Act → World → Prop} (hi : ops[i]? = some o) (hg : o.guard = none)
    (hr : (execOp a.eval o).run P w = .ok (.enter f args) w) (hK : Calls P f args w fun e w' => ∃ v, e = .returned v ∧ K (a.put o.dst v) w') : wpOp P ops Q i K a w := by
  unfold wpOp
  rw [hi]
  have hw : Region.wanted o (yielded ops a.tmps) = true := by unfold Region.wanted; rw [hg]
  simp only [hw, if_true]
  left
  unfold Oper.wp
  rw [hr]
  exact hK.mono fun e w' ⟨v, he, hk⟩ => by subst he; exact hk
end Go.Proofs.Ybulkauni.lawS2296ATells
