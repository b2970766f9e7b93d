import Derived.Test.YbulkauhkBlame
namespace Go.Proofs.Ybulkauhk
open Go.ChangeShapes Go.WideShapes Go.ChangeAt Go.RowKit
open Go.Maps
theorem Yba.info40 : (Yba.prog.info? 40).map (fun i => (i.zero, i.size, i.bytes)) = some (some (.slice none 0 0), 1, 24) := by kernel_rfl
theorem Yba.info43 : (Yba.prog.info? 43).map (fun i => (i.zero, i.size, i.bytes)) = some (some (.int .u64 0), 1, 8) := by kernel_rfl
theorem Yba.info3 : (Yba.prog.info? 3).map (fun i => (i.zero, i.size, i.bytes)) = some (some (.int .i64 0), 1, 8) := by kernel_rfl
theorem cell_lt {w : World} {a : Addr} {v : Value} (h : w.cell? a = some v) : a.block < w.heap.size := World.block_lt_of_cell? w a h
/-- What 'make' leaves: a row of cells. -/
theorem made_row {w : World} {base g n cap : Nat} {e : TypeId} {z : Value} (h : w.ownsRow base e 1 (.slice (some ⟨g, 0, none⟩) n cap) n (madeCells #[z] n).toList) :
    g < w.heap.size ∧ (∀ j, j < n → w.cell? ⟨g, j, none⟩ = some z) ∧ ∀ j, w.frozen? ⟨g, j, none⟩ = false := by
  refine ⟨?_, fun j hj => ?_, h.frozenAt⟩
  · rcases h.2 with ⟨h', _⟩ | ⟨g', cap', cur, h', hb', hh, r⟩
    · simp at h'
    · have e : g' = g := by simp only [Value.slice.injEq, Option.some.injEq, Addr.mk.injEq, and_true, true_and] at h'; exact h'.1.symm
      subst e
      exact (Array.getElem?_eq_some_iff.1 hh).1
  · rw [h.cellAt j (by omega)]
    simp [madeCells, hj, Nat.mod_one]
/-- The rows of words. -/
structure Mat (wr : World) (B n W k : Nat) (gs : Nat → Nat) (f : Nat → Nat → Nat) : Prop where
  lt : B < wr.heap.size
  any : ∀ b, b < n → ∃ v, wr.cell? ⟨B, b, none⟩ = some v
  fz : ∀ b, wr.frozen? ⟨B, b, none⟩ = false
  row : ∀ b, b < k → B < gs b ∧ gs b < wr.heap.size ∧ wr.cell? ⟨B, b, none⟩ = some (.slice (some ⟨gs b, 0, none⟩) W W)
  word : ∀ b, b < k → ∀ j, j < W → wr.cell? ⟨gs b, j, none⟩ = some (.int .u64 (f b j))
  wfz : ∀ b, b < k → ∀ j, wr.frozen? ⟨gs b, j, none⟩ = false
  inj : ∀ b b', b < k → b' < k → gs b = gs b' → b = b'
def upd (gs : Nat → Nat) (k x : Nat) : Nat → Nat := fun b => if b = k then x else gs b
def upd2 (f : Nat → Nat → Nat) (k i x : Nat) : Nat → Nat → Nat := fun b j => if b = k ∧ j = i then x else f b j
theorem Mat.below {wr w' : World} {B n W k : Nat} {gs : Nat → Nat} {f : Nat → Nat → Nat} (h : Mat wr B n W k gs f) (hb : Below wr.heap.size wr w') : Mat w' B n W k gs f := by
  obtain ⟨hc, hf⟩ := bcell hb
  have hs := hb.size
  refine ⟨Nat.lt_of_lt_of_le h.lt hs, fun b hlt => ?_, fun b => ?_, fun b hlt => ?_, fun b hlt j hj => ?_, fun b hlt j => ?_, h.inj⟩
  · rw [hc _ _ h.lt]; exact h.any b hlt
  · rw [hf _ _ h.lt]; exact h.fz b
  · obtain ⟨h1, h2, h3⟩ := h.row b hlt
    exact ⟨h1, by omega, by rw [hc _ _ h.lt]; exact h3⟩
  · rw [hc _ _ (h.row b hlt).2.1]; exact h.word b hlt j hj
  · rw [hf _ _ (h.row b hlt).2.1]; exact h.wfz b hlt j
theorem mat_start {w1 : World} {B n W : Nat} (gs : Nat → Nat) (f : Nat → Nat → Nat) (h : w1.ownsRow B 40 1 (.slice (some ⟨B, 0, none⟩) n n) n (madeCells #[Value.slice none 0 0] n).toList) : Mat w1 B n W 0 gs f := by
  obtain ⟨h1, h2, h3⟩ := made_row h
  exact ⟨h1, fun b hb => ⟨_, h2 b hb⟩, h3, fun b hb => by omega, fun b hb => by omega, fun b hb => by omega, fun b b' hb => by omega⟩
theorem mat_make {wr w1 : World} {B n W k base S : Nat} {gs : Nat → Nat} (h : Mat wr B n W k gs (fun _ _ => 0)) (hk : k < n) (hS : S = wr.heap.size)
    (ho : w1.ownsRow base 43 1 (.slice (some ⟨S, 0, none⟩) W W) W (madeCells #[Value.int .u64 0] W).toList) (hb : Below wr.heap.size wr w1) :
    Mat (w1.setCell ⟨B, k, none⟩ (.slice (some ⟨S, 0, none⟩) W W)) B n W (k + 1) (upd gs k S) (fun _ _ => 0) := by
  subst hS
  have h1 := h.below hb
  obtain ⟨g1, g2, g3⟩ := made_row ho
  have hlt := h.lt
  have hsz : (w1.setCell ⟨B, k, none⟩ (.slice (some ⟨wr.heap.size, 0, none⟩) W W)).heap.size = w1.heap.size := by simp
  have hu : ∀ b, b < k + 1 → (b = k ∧ upd gs k wr.heap.size b = wr.heap.size) ∨ (b < k ∧ upd gs k wr.heap.size b = gs b) := fun b hb => by
    unfold upd
    by_cases e : b = k
    · exact .inl ⟨e, if_pos e⟩
    · exact .inr ⟨by omega, if_neg e⟩
  refine ⟨by rw [hsz]; exact h1.lt, fun b hb' => ?_, fun b => ?_, fun b hb' => ?_, fun b hb' j hj => ?_, fun b hb' j => ?_, fun b b' hb1 hb2 he => ?_⟩
  · by_cases e : b = k
    · subst e
      obtain ⟨v, hv⟩ := h1.any b hb'
      exact ⟨_, World.cell?_setCell_same _ _ _ hv⟩
    · rw [World.cell?_setCell_other _ _ _ _ (by intro he; injection he; omega)]; exact h1.any b hb'
  · rw [World.frozen?_setCell]; exact h1.fz b
  · rcases hu b hb' with ⟨e, e2⟩ | ⟨e, e2⟩
    · subst e
      obtain ⟨v, hv⟩ := h1.any b hk
      rw [e2, hsz]
      exact ⟨hlt, g1, World.cell?_setCell_same _ _ _ hv⟩
    · rw [e2, hsz]
      obtain ⟨r1, r2, r3⟩ := h1.row b e
      exact ⟨r1, r2, by rw [World.cell?_setCell_other _ _ _ _ (by intro he; injection he; omega)]; exact r3⟩
  · rcases hu b hb' with ⟨e, e2⟩ | ⟨e, e2⟩
    · rw [e2, World.cell?_setCell_other _ _ _ _ (by intro he; injection he; omega)]; exact g2 j hj
    · have := (h1.row b e).1
      rw [e2, World.cell?_setCell_other _ _ _ _ (by intro he; injection he; omega)]; exact h1.word b e j hj
  · rw [World.frozen?_setCell]
    rcases hu b hb' with ⟨e, e2⟩ | ⟨e, e2⟩
    · rw [e2]; exact g3 j
    · rw [e2]; exact h1.wfz b e j
  · rcases hu b hb1 with ⟨e, e2⟩ | ⟨e, e2⟩ <;> rcases hu b' hb2 with ⟨e', e2'⟩ | ⟨e', e2'⟩
    · omega
    · rw [e2, e2'] at he
      have := (h.row b' e').2.1
      omega
    · rw [e2, e2'] at he
      have := (h.row b e).2.1
      omega
    · rw [e2, e2'] at he
      exact h.inj b b' e e' he
theorem mat_set {wr : World} {B n W k b j x : Nat} {gs : Nat → Nat} {f : Nat → Nat → Nat} (h : Mat wr B n W k gs f) (hb : b < k) (hj : j < W) : Mat (wr.setCell ⟨gs b, j, none⟩ (.int .u64 (x : Int))) B n W k gs (upd2 f b j x) := by
  obtain ⟨r1, r2, r3⟩ := h.row b hb
  refine ⟨by simpa using h.lt, fun b' hb' => ?_, fun b' => ?_, fun b' hb' => ?_, fun b' hb' j' hj' => ?_, fun b' hb' j' => ?_, h.inj⟩
  · rw [World.cell?_setCell_other _ _ _ _ (by intro he; injection he; omega)]; exact h.any b' hb'
  · rw [World.frozen?_setCell]; exact h.fz b'
  · obtain ⟨q1, q2, q3⟩ := h.row b' hb'
    exact ⟨q1, by simpa using q2, by rw [World.cell?_setCell_other _ _ _ _ (by intro he; injection he; omega)]; exact q3⟩
  · unfold upd2
    by_cases e : b' = b ∧ j' = j
    · obtain ⟨rfl, rfl⟩ := e
      rw [if_pos ⟨rfl, rfl⟩, World.cell?_setCell_same _ _ _ (h.word b' hb' j' hj')]
    · rw [if_neg e, World.cell?_setCell_other _ _ _ _ ?_]
      · exact h.word b' hb' j' hj'
      · intro he
        simp only [Addr.mk.injEq] at he
        exact e ⟨h.inj b' b hb' hb he.1.symm, he.2.1.symm⟩
  · rw [World.frozen?_setCell]; exact h.wfz b' hb' j'
/-- The bits say which pairs have come. -/
def BitsOk (n k : Nat) (vis : List (Nat × Nat)) (f : Nat → Nat → Nat) : Prop :=
  (∀ b j, f b j < 18446744073709551616) ∧ ∀ a b, a < n → b < n → (f b (a / 64)).testBit (a % 64) = (vis.take k).any (hit n a b)
theorem bits_start (n : Nat) (vis : List (Nat × Nat)) : BitsOk n 0 vis (fun _ _ => 0) := ⟨fun _ _ => by show 0 < _; omega, fun a b _ _ => by simp⟩
theorem bits_step (n k : Nat) (vis : List (Nat × Nat)) (f : Nat → Nat → Nat) (h : BitsOk n k vis f) (hk : k < vis.length) (A Bb : Nat) (hA : A = (vis.getD k (0, 0)).1 % n) (hB : Bb = (vis.getD k (0, 0)).2 % n) :
    BitsOk n (k + 1) vis (upd2 f Bb (A / 64) (f Bb (A / 64) ||| 2 ^ (A % 64))) := by
  have hp := pow_lt (A % 64) (Nat.mod_lt _ (by omega))
  refine ⟨fun b j => ?_, fun a b ha hb => ?_⟩
  · unfold upd2
    split
    · exact or_lt _ _ (h.1 _ _) hp
    · exact h.1 b j
  · rw [any_take n a b vis k hk, ← h.2 a b ha hb]
    have hh : hit n a b (vis.getD k (0, 0)) = (A == a && Bb == b) := by unfold hit; rw [hA, hB]
    rw [hh]
    unfold upd2
    by_cases e : b = Bb ∧ a / 64 = A / 64
    · rw [if_pos e, test_or, e.1, e.2]
      congr 1
      rw [Bool.eq_iff_iff]
      simp
      omega
    · rw [if_neg e]
      have : (A == a && Bb == b) = false := by
        cases hc : (A == a && Bb == b)
        · rfl
        · simp at hc
          exact absurd ⟨hc.2.symm, by rw [hc.1]⟩ e
      rw [this]; simp
theorem vis_of_mat {wr w' : World} {B n W c : Nat} {gs : Nat → Nat} {f : Nat → Nat → Nat} {vis : List (Nat × Nat)} (h : Mat wr B n W n gs f) (hW : ∀ a, a < n → a / 64 < W) (hb : BitsOk n vis.length vis f) (hw : Below wr.heap.size wr w') (hc : w'.cell? ⟨c, 0, none⟩ = some (.slice (some ⟨B, 0, none⟩) n n)) : VisOk w' c n vis := by
  have h' := h.below hw
  refine ⟨cell_lt hc, B, W, h'.lt, hc, fun b hlt => ?_⟩
  obtain ⟨r1, r2, r3⟩ := h'.row b hlt
  refine ⟨gs b, r2, r3, fun a ha => ⟨hW a ha, f b (a / 64), hb.1 _ _, h'.word b hlt _ (hW a ha), ?_⟩⟩
  rw [hb.2 a b ha hlt, List.take_length]; rfl
end Go.Proofs.Ybulkauhk
