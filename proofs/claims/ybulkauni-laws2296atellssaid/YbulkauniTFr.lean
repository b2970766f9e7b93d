import Derived.Test.YbulkauniTHeld
namespace Go.Proofs.Ybulkauni.lawS2296ATells
open Go.ChangeShapes Go.WideShapes Go.ChangeAt Go.RowKit Go.Maps
open Go.Proofs.Ybulkauni.lawS2296CSendTaken (RowIs clone_any below_drewN bcell)
/-- Only R's cells C, the blocks X and new blocks have turned. -/
structure Fr (R : Nat) (C X : Nat → Prop) (w w' : World) : Prop where
  os : w'.os = w.os
  tape : w'.tape = w.tape
  output : w'.output = w.output
  size : w.heap.size ≤ w'.heap.size
  block : ∀ k, k < w.heap.size → k ≠ R → ¬ X k → w'.heap[k]? = w.heap[k]?
  cell : ∀ o, ¬ C o → w'.cell? ⟨R, o, none⟩ = w.cell? ⟨R, o, none⟩
  frozen : ∀ o, w'.frozen? ⟨R, o, none⟩ = w.frozen? ⟨R, o, none⟩
theorem Fr.refl (R : Nat) (C X : Nat → Prop) (w : World) : Fr R C X w w := ⟨rfl, rfl, rfl, Nat.le_refl _, fun _ _ _ _ => rfl, fun _ _ => rfl, fun _ => rfl⟩
theorem Fr.trans {R : Nat} {C X : Nat → Prop} {a b c : World} (h : Fr R C X a b) (k : Fr R C X b c) : Fr R C X a c :=
  ⟨k.os.trans h.os, k.tape.trans h.tape, k.output.trans h.output, Nat.le_trans h.size k.size, fun i hi h1 h2 => (k.block i (Nat.lt_of_lt_of_le hi h.size) h1 h2).trans (h.block i hi h1 h2), fun o ho => (k.cell o ho).trans (h.cell o ho), fun o => (k.frozen o).trans (h.frozen o)⟩
/-- With the blocks X allowed to be new ones of a's. -/
theorem Fr.next {R : Nat} {C X C' X' : Nat → Prop} {a b c : World} (h : Fr R C X a b) (k : Fr R C' X' b c) (hC : ∀ o, C' o → C o) (hX : ∀ i, X' i → X i ∨ a.heap.size ≤ i) : Fr R C X a c :=
  ⟨k.os.trans h.os, k.tape.trans h.tape, k.output.trans h.output, Nat.le_trans h.size k.size, fun i hi h1 h2 => (k.block i (Nat.lt_of_lt_of_le hi h.size) h1 (fun hx => (hX i hx).elim h2 (fun e => by omega))).trans (h.block i hi h1 h2), fun o ho => (k.cell o (fun e => ho (hC o e))).trans (h.cell o ho), fun o => (k.frozen o).trans (h.frozen o)⟩
theorem Fr.below {R : Nat} {C X : Nat → Prop} {a b c : World} (h : Fr R C X a b) (k : Below b.heap.size b c) (hR : R < a.heap.size) : Fr R C X a c :=
  have hR' : R < b.heap.size := Nat.lt_of_lt_of_le hR h.size
  h.trans ⟨k.os, k.tape, k.output, k.size, fun i hi _ _ => k.block i hi, fun o _ => k.cell (p := ⟨R, o, none⟩) hR', fun o => k.frozen (p := ⟨R, o, none⟩) hR'⟩
theorem Fr.alloc {R : Nat} {C X : Nat → Prop} {a b : World} (h : Fr R C X a b) (hR : R < a.heap.size) (o : Obj) : Fr R C X a (b.alloc o) :=
  h.below ((Below.refl _ _).alloc (Nat.le_refl _) o) hR
theorem Fr.drew {R : Nat} {C X : Nat → Prop} {a b : World} (h : Fr R C X a b) : Fr R C X a b.drew := ⟨h.os, h.tape, h.output, h.size, h.block, h.cell, h.frozen⟩
theorem Fr.setCell {R : Nat} {C X : Nat → Prop} {a b : World} (h : Fr R C X a b) (o : Nat) (ho : C o) (u : Value) : Fr R C X a (b.setCell ⟨R, o, none⟩ u) :=
  h.trans ⟨rfl, rfl, rfl, by simp [World.setCell], fun k _ h1 _ => Below.heap_setCell _ _ _ _ h1, fun o' ho' => World.cell?_setCell_other _ _ _ _ (by intro he; injection he with _ he; exact ho' (he ▸ ho)), fun o' => World.frozen?_setCell _ _ _ _⟩
theorem Fr.setNew {R : Nat} {C X : Nat → Prop} {a b : World} (h : Fr R C X a b) (hR : R < a.heap.size) (g o : Nat) (hg : a.heap.size ≤ g) (u : Value) : Fr R C X a (b.setCell ⟨g, o, none⟩ u) :=
  ⟨h.os, h.tape, h.output, by simpa [World.setCell] using h.size, fun k hk h1 h2 => (Below.heap_setCell _ _ _ _ (by show k ≠ g; omega)).trans (h.block k hk h1 h2), fun o' ho' => (World.cell?_setCell_other _ _ _ _ (by intro he; injection he; omega)).trans (h.cell o' ho'), fun o' => (World.frozen?_setCell _ _ _ _).trans (h.frozen o')⟩
theorem Fr.grown {R : Nat} {C X : Nat → Prop} {a b c : World} {row : Option Nat} (h : Fr R C X a b) (k : b.grownBy c row) (hR : R < a.heap.size) (hr : ∀ i, row = some i → i ≠ R ∧ (X i ∨ a.heap.size ≤ i)) : Fr R C X a c :=
  have hR' : R < b.heap.size := Nat.lt_of_lt_of_le hR h.size
  have hb : c.heap[R]? = b.heap[R]? := k.block R hR' (fun e => (hr R e.symm).1 rfl)
  ⟨k.os.trans h.os, k.tape.trans h.tape, k.output.trans h.output, Nat.le_trans h.size k.size, fun i hi h1 h2 => (k.block i (Nat.lt_of_lt_of_le hi h.size) (fun e => (hr i e.symm).2.elim h2 (fun q => by omega))).trans (h.block i hi h1 h2), fun o ho => (World.cell?_of_block (w := b) hb).trans (h.cell o ho), fun o => (World.frozen?_of_block (w := b) hb).trans (h.frozen o)⟩
theorem Fr.turned {R : Nat} {C X : Nat → Prop} {a b c : World} {m : Nat} (h : Fr R C X a b) (k : b.mapTurned c m) (hR : R < a.heap.size) (hm : m ≠ R) (hx : X m ∨ a.heap.size ≤ m) : Fr R C X a c :=
  h.grown k.grown hR (fun i e => by cases e; exact ⟨hm, hx⟩)
/-- What a frame says of old blocks. -/
theorem Fr.toBelow {R B : Nat} {C X : Nat → Prop} {w w' : World} (h : Fr R C X w w') (hB : B ≤ w.heap.size) (hR : B ≤ R) (hX : ∀ k, X k → B ≤ k) : Below B w w' :=
  ⟨h.os, h.tape, h.output, h.size, fun k hk => h.block k (by omega) (by omega) (fun e => by have := hX k e; omega)⟩
theorem Fr.ownsRow {R : Nat} {C X : Nat → Prop} {w w' : World} (h : Fr R C X w w') {base e size n : Nat} {v : Value} {xs : List Value} (ho : w.ownsRow base e size v n xs) (hx : ∀ g, v.ownBlock = some g → g ≠ R ∧ ¬ X g) : w'.ownsRow base e size v n xs := by
  obtain ⟨h1, h2⟩ := ho
  refine ⟨h1, ?_⟩
  rcases h2 with h2 | ⟨g, cap, cur, hv, hg, hh, r⟩
  · exact Or.inl h2
  · subst hv
    have hq := hx g rfl
    exact Or.inr ⟨g, cap, cur, rfl, hg, (h.block g (Array.getElem?_eq_some_iff.1 hh).1 hq.1 hq.2).trans hh, r⟩
theorem Fr.ownsMap {R : Nat} {C X : Nat → Prop} {w w' : World} (h : Fr R C X w w') {H : Type} {k : TypeId} {Rd : Value → Option (DataW H × List MemPlace)} {b n : Nat} {D : DataW H} (ho : w.ownsMap Yba.prog k Rd b n D) (h1 : b ≠ R) (h2 : ¬ X b) : w'.ownsMap Yba.prog k Rd b n D := by
  obtain ⟨es, clock, hh, r⟩ := ho
  exact ⟨es, clock, (h.block b (Array.getElem?_eq_some_iff.1 hh).1 h1 h2).trans hh, r⟩
/-! The two outboxes' keys. -/
theorem row170 : (170 : TypeId) < Yba.prog.types.size := of_decide_eq_true (by kernel_rfl)
theorem wide170 : (match Yba.prog.underlying 170 with | some (.array _ _) | some (.struct _) => true | _ => false) = true := by rw [Yba.underlying170]
theorem kt170 : Yba.prog.keyTypeAt 2 170 = true := by kernel_rfl
set_option maxRecDepth 100000 in
theorem law170 : Keyed Yba.prog 170 := Keyed.of_law (deep_law_laid laidOut (m := 2) (by omega) row170 kt170 wide170)
theorem law22 : Keyed Yba.prog 22 := int_keyed Yba.underlying22
theorem keyType170 : Yba.prog.keyType 170 = true := by kernel_rfl
theorem cells170 : Yba.prog.cellsOf 170 = 4 := by kernel_rfl
theorem cells4 : Yba.prog.cellsOf 4 = 1 := by kernel_rfl
def hl (t o r : Nat) : Lit := .string (keyBytes [.int .u64 (t : Int), .bool true, .int .u64 (o : Int), .int .u64 (r : Int)])
theorem hkey_is (t o r : Nat) (h1 : t < 2000) (h2 : o < 2000) (h3 : r < 2000) : keyOf Yba.prog 170 (.agg #[.int .u64 (t : Int), .bool true, .int .u64 (o : Int), .int .u64 (r : Int)]) = some (hl t o r) := by
  have h1 := wf64 t h1
  have h2 := wf64 o h2
  have h3 := wf64 r h3
  have hf : (Value.agg #[.int .u64 (t : Int), .bool true, .int .u64 (o : Int), .int .u64 (r : Int)]).formed Yba.prog 170 = true := by simp [Value.formed, Yba.underlying170, cells170]
  have hp := typesPos
  unfold keyOf hl
  rw [Yba.underlying170]
  simp only [keyType170, hf, Bool.and_self, if_true]
  generalize Yba.prog.types.size = N at hp ⊢
  cases N with
  | zero => exact absurd hp (Nat.lt_irrefl 0)
  | succ d => simp [Program.keyLits, Yba.underlying170, Yba.underlying22, Yba.underlying4, cells170, cells22, cells4, Value.cells, h1, h2, h3]
theorem hl_inj {t o r t' o' r' : Nat} (h1 : t < 2000) (h2 : o < 2000) (h3 : r < 2000) (h1' : t' < 2000) (h2' : o' < 2000) (h3' : r' < 2000) (h : hl t o r = hl t' o' r') : t = t' ∧ o = o' ∧ r = r' := by
  have := law170.inj (hkey_is t o r h1 h2 h3) (by rw [h]; exact hkey_is t' o' r' h1' h2' h3')
  simp only [Value.agg.injEq] at this
  simp only [Array.mk.injEq, List.cons.injEq, Value.int.injEq, true_and, and_true] at this
  omega
theorem zero3 (w : World) : (zeroValue 3).run Yba.prog w = .ok (.int .i64 0) w := by kernel_rfl
theorem Yba.info81 : (Yba.prog.info? 81).map (fun i => (i.zero, i.size, i.bytes)) = some (some (.agg #[.int .u64 0, .nilIface]), 2, 24) := by kernel_rfl
end Go.Proofs.Ybulkauni.lawS2296ATells
