import Derived.Test.YbulkauniTState
namespace Go.Proofs.Ybulkauni.lawS2296ATells
open Go.ChangeShapes Go.WideShapes Go.ChangeAt Go.RowKit Go.Maps
open Go.Proofs.Ybulkauni.lawS2296CSendTaken (RowIs clone_any below_drewN bcell)
theorem Yba.info73 : (Yba.prog.info? 73).map (fun i => (i.zero, i.size, i.bytes)) = some (some (.agg #[.int .u64 0, .int .i64 0]), 2, 16) := by kernel_rfl
theorem Yba.info22' : (Yba.prog.info? 22).map (fun i => (i.zero, i.size, i.bytes)) = some (some (.int .u64 0), 1, 8) := by kernel_rfl
def rowP (n : Nat) : List Value := (List.range n).flatMap fun (i : Nat) => [.int .u64 ((i : Int) + 10), .int .i64 (i : Int)]
def rowQ (n : Nat) : List Value := (List.range n).map fun (i : Nat) => .int .u64 ((i : Int) + 20)
theorem rowP_succ (n : Nat) : rowP (n + 1) = rowP n ++ [.int .u64 ((n : Int) + 10), .int .i64 (n : Int)] := by simp [rowP, List.range_succ]
theorem rowQ_succ (n : Nat) : rowQ (n + 1) = rowQ n ++ [.int .u64 ((n : Int) + 20)] := by simp [rowQ, List.range_succ]
theorem rowP_at (n k : Nat) (hk : k < n) : (rowP n)[k * 2]? = some (.int .u64 ((k : Int) + 10)) ∧ (rowP n)[k * 2 + 1]? = some (.int .i64 (k : Int)) := by
  induction n with
  | zero => omega
  | succ n ih =>
    have hl : ∀ n, (rowP n).length = n * 2 := fun n => by induction n with
      | zero => rfl
      | succ n ih => rw [rowP_succ, List.length_append, ih]; simp; omega
    rw [rowP_succ]
    by_cases e : k = n
    · subst e
      constructor
      · rw [List.getElem?_append_right (by rw [hl]; omega), hl]; simp
      · rw [List.getElem?_append_right (by rw [hl]; omega), hl]; simp
    · obtain ⟨h1, h2⟩ := ih (by omega)
      constructor
      · rw [List.getElem?_append_left (by rw [hl]; omega)]; exact h1
      · rw [List.getElem?_append_left (by rw [hl]; omega)]; exact h2
theorem rowQ_at (n k : Nat) (hk : k < n) : (rowQ n)[k]? = some (.int .u64 ((k : Int) + 20)) := by
  simp [rowQ, hk]
theorem prow_of {W : World} {B n c : Nat} {pa : Option Addr} (h : W.ownsRow B 73 2 (.slice pa n c) n (rowP n)) : PRow W pa n := by
  intro k hk
  rcases h.2 with ⟨-, h0⟩ | ⟨g, cap, cur, hv, hb, hh, h1, h2, h3, h4⟩
  · omega
  · cases hv
    obtain ⟨e1, e2⟩ := rowP_at n k hk
    rw [← h4, List.getElem?_take, if_pos (by omega)] at e1 e2
    exact ⟨g, rfl, (Array.getElem?_eq_some_iff.1 hh).1, by simpa [World.cell?, hh] using e1, by simpa [World.cell?, hh] using e2⟩
theorem qrow_of {W : World} {B n c : Nat} {pa : Option Addr} (h : W.ownsRow B 22 1 (.slice pa n c) n (rowQ n)) : QRow W pa n := by
  intro k hk
  rcases h.2 with ⟨-, h0⟩ | ⟨g, cap, cur, hv, hb, hh, h1, h2, h3, h4⟩
  · omega
  · cases hv
    have e1 := rowQ_at n k hk
    rw [← h4, List.getElem?_take, if_pos (by omega)] at e1
    exact ⟨g, rfl, (Array.getElem?_eq_some_iff.1 hh).1, by simpa [World.cell?, hh] using e1⟩
/-- The key's box N and the new Placed N + 1. -/
structure NewE (w W : World) (N x1 x2 x3 : Nat) (pa : Option Addr) (np pc : Nat) (qa : Option Addr) (nr qc : Nat) : Prop where
  k : W.heap[N]? = some (.cells #[.int .u64 (x1 : Int), .int .u64 (x2 : Int), .int .u64 (x3 : Int)] 68 (0, 0))
  p : W.heap[N + 1]? = some (.cells #[.int .u64 7, .int .u64 9, .int .u64 0, .int .u64 5, .slice pa np pc, .slice qa nr qc] 71 (0, 0))
  own : W.ownsRow (N + 2) 73 2 (.slice pa np pc) np (rowP np)
  ownq : W.ownsRow (N + 2) 22 1 (.slice qa nr qc) nr (rowQ nr)
  low : Below N w W
theorem set_block {W : World} {b o : Nat} {cur : Array Value} {t : TypeId} {v : Value} (h : W.heap[b]? = some (.cells cur t (0, 0))) : (W.setCell ⟨b, o, none⟩ v).heap[b]? = some (.cells (cur.setIfInBounds o v) t (0, 0)) := by
  rw [setCell_eq_setRow W b o cur t (0, 0) v h]
  exact setRow_heap W b cur _ _ _ h
theorem grown_row {W W' : World} {row : Option Nat} (hg : W.grownBy W' row) {base e size n c : Nat} {va : Option Addr} {xs : List Value} (h : W.ownsRow base e size (.slice va n c) n xs) (hr : ∀ g, sb va = some g → some g ≠ row) : W'.ownsRow base e size (.slice va n c) n xs := by
  obtain ⟨h1, h2⟩ := h
  refine ⟨h1, h2.imp id ?_⟩
  rintro ⟨g, cap, cur, hv, hb, hh, r⟩
  cases hv
  exact ⟨g, _, cur, rfl, hb, (hg.block g (Array.getElem?_eq_some_iff.1 hh).1 (hr g rfl)).trans hh, r⟩
theorem NewE.stepP {w W W1 : World} {N x1 x2 x3 : Nat} {pa : Option Addr} {i pc : Nat} (h : NewE w W N x1 x2 x3 pa i pc none 0 0) (o : Obj) (hg : (W.alloc o).grownBy W1 (sb pa)) {g cap : Nat} (hown : W1.ownsRow (N + 2) 73 2 (.slice (some ⟨g, 0, none⟩) (i + 1) cap) (i + 1) (rowP i ++ [.int .u64 ((i : Int) + 10), .int .i64 (i : Int)])) :
    NewE w (W1.setCell ⟨N + 1, 4, none⟩ (.slice (some ⟨g, 0, none⟩) (i + 1) cap)) N x1 x2 x3 (some ⟨g, 0, none⟩) (i + 1) cap none 0 0 := by
  have hN : N < W.heap.size := (Array.getElem?_eq_some_iff.1 h.k).1
  have hN1 : N + 1 < W.heap.size := (Array.getElem?_eq_some_iff.1 h.p).1
  have hs : (W.alloc o).heap.size = W.heap.size + 1 := by simp
  have hne : ∀ j, j < N + 2 → some j ≠ sb pa := fun j hj e => by have := (row_lt h.own j e.symm).1; omega
  have bk : ∀ j, j < N + 2 → W1.heap[j]? = W.heap[j]? := fun j hj => (hg.block j (by rw [hs]; omega) (hne j hj)).trans (Below.heap_alloc W o j (by omega))
  refine ⟨?_, ?_, ?_, ⟨rfl, .inl ⟨rfl, rfl⟩⟩, ?_⟩
  · rw [Below.heap_setCell _ _ _ _ (by show N ≠ N + 1; omega), bk N (by omega)]; exact h.k
  · rw [set_block ((bk (N + 1) (by omega)).trans h.p)]; rfl
  · rw [rowP_succ]
    exact ownsRow_setCell_below hown (by show N + 1 < N + 2; omega) _
  · exact (h.low.trans (((Below.refl N W).alloc (by omega) o).grown hg (by rw [hs]; omega) (fun j e => by have := (row_lt h.own j e).1; omega))).setCell (p := ⟨N + 1, 4, none⟩) (by show N ≤ N + 1; omega) _
theorem NewE.stepQ {w W W1 : World} {N x1 x2 x3 : Nat} {pa : Option Addr} {np pc : Nat} {qa : Option Addr} {i qc : Nat} (h : NewE w W N x1 x2 x3 pa np pc qa i qc) (o : Obj) (hg : (W.alloc o).grownBy W1 (sb qa)) {g cap : Nat} (hown : W1.ownsRow (N + 2) 22 1 (.slice (some ⟨g, 0, none⟩) (i + 1) cap) (i + 1) (rowQ i ++ [.int .u64 ((i : Int) + 20)])) :
    NewE w (W1.setCell ⟨N + 1, 5, none⟩ (.slice (some ⟨g, 0, none⟩) (i + 1) cap)) N x1 x2 x3 pa np pc (some ⟨g, 0, none⟩) (i + 1) cap := by
  have hN : N < W.heap.size := (Array.getElem?_eq_some_iff.1 h.k).1
  have hN1 : N + 1 < W.heap.size := (Array.getElem?_eq_some_iff.1 h.p).1
  have hs : (W.alloc o).heap.size = W.heap.size + 1 := by simp
  have hne : ∀ j, j < N + 2 → some j ≠ sb qa := fun j hj e => by have := (row_lt h.ownq j e.symm).1; omega
  have bk : ∀ j, j < N + 2 → W1.heap[j]? = W.heap[j]? := fun j hj => (hg.block j (by rw [hs]; omega) (hne j hj)).trans (Below.heap_alloc W o j (by omega))
  have hpq : ∀ g, sb pa = some g → some g ≠ sb qa := by
    intro g hp hq
    rcases h.own.2 with ⟨e, -⟩ | ⟨g1, c1, cur1, e, -, hh1, -⟩
    · cases e; cases hp
    · rcases h.ownq.2 with ⟨e', -⟩ | ⟨g2, c2, cur2, e', -, hh2, -⟩
      · cases e'; cases hq
      · cases e; cases e'; cases hp; cases hq
        rw [hh1] at hh2
        cases hh2
  refine ⟨?_, ?_, ?_, ?_, ?_⟩
  · rw [Below.heap_setCell _ _ _ _ (by show N ≠ N + 1; omega), bk N (by omega)]; exact h.k
  · rw [set_block ((bk (N + 1) (by omega)).trans h.p)]; rfl
  · exact ownsRow_setCell_below (grown_row hg (below_ownsRow ((Below.refl _ _).alloc (Nat.le_refl _) o) h.own) hpq) (by show N + 1 < N + 2; omega) _
  · rw [rowQ_succ]
    exact ownsRow_setCell_below hown (by show N + 1 < N + 2; omega) _
  · exact (h.low.trans (((Below.refl N W).alloc (by omega) o).grown hg (by rw [hs]; omega) (fun j e => by have := (row_lt h.ownq j e).1; omega))).setCell (p := ⟨N + 1, 5, none⟩) (by show N ≤ N + 1; omega) _
theorem code_parts (x1 x2 x3 : Nat) (h2 : x2 ≤ 6) (h3 : x3 ≤ 2) : (x1 * 64 + x2 * 8 + x3) / 64 = x1 ∧ (x1 * 64 + x2 * 8 + x3) / 8 % 8 = x2 ∧ (x1 * 64 + x2 * 8 + x3) % 8 = x3 := by omega
def mkE (N x1 x2 x3 : Nat) (pa : Option Addr) (np pc : Nat) (qa : Option Addr) (nr qc : Nat) : Ent := ⟨x1 * 64 + x2 * 8 + x3, np, nr, N + 1, pa, pc, qa, qc⟩
theorem NewE.ok {w W : World} {N x1 x2 x3 : Nat} {pa : Option Addr} {np pc : Nat} {qa : Option Addr} {nr qc : Nat} (h : NewE w W N x1 x2 x3 pa np pc qa nr qc) (R : Nat) (hR : R < N) (h1 : x1 ≤ 5) (h2 : 2 ≤ x2 ∧ x2 ≤ 6) (h3 : x3 ≤ 2) (h4 : np ≤ 2) (h5 : nr ≤ 2) :
    EOk W R (mkE N x1 x2 x3 pa np pc qa nr qc) ∧ ∀ g, Of (mkE N x1 x2 x3 pa np pc qa nr qc) g → N ≤ g := by
  have hc := code_parts x1 x2 x3 h2.2 h3
  have hl : N + 1 < W.heap.size := (Array.getElem?_eq_some_iff.1 h.p).1
  refine ⟨⟨⟨hl, cell_heap h.p rfl, cell_heap h.p rfl, cell_heap h.p rfl, cell_heap h.p rfl, cell_heap h.p rfl, cell_heap h.p rfl⟩, ?_, ⟨?_, ?_⟩, h4, h5, prow_of h.own, qrow_of h.ownq, ?_⟩, ?_⟩
  · show N + 1 ≠ R; omega
  · show x1 * 64 + x2 * 8 + x3 < 512; omega
  · show 0 < (x1 * 64 + x2 * 8 + x3) / 8 % 8; omega
  · rintro g (e | e | e)
    · rw [e]; exact hl
    · exact (row_lt h.own g e).2
    · exact (row_lt h.ownq g e).2
  · rintro g (e | e | e)
    · rw [e]; show N ≤ N + 1; omega
    · have := (row_lt h.own g e).1; omega
    · have := (row_lt h.ownq g e).1; omega
end Go.Proofs.Ybulkauni.lawS2296ATells
