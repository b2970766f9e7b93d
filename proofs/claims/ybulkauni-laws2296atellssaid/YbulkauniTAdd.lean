import Derived.Test.YbulkauniTPut
namespace Go.Proofs.Ybulkauni.lawS2296ATells
open Go.ChangeShapes Go.WideShapes Go.ChangeAt Go.RowKit Go.Maps
open Go.Proofs.Ybulkauni.lawS2296CSendTaken (RowIs clone_any below_drewN bcell)
/-- The immediate outbox. -/
structure EIs (w : World) (R B : Nat) (es : List (Nat × Value)) (va : Option Addr) (vc : Nat) (lm : Option Nat) : Prop where
  c70 : w.cell? ⟨R, 70, none⟩ = some (.slice va es.length vc)
  c71 : w.cell? ⟨R, 71, none⟩ = some (.map lm)
  own : w.ownsRow B 81 2 (.slice va es.length vc) es.length (rowE es)
  last : LastOk w lm es.length
/-- Blocks of a slice or a map: the same ones, or new ones. -/
def Same (N : Nat) (x x' : Option Nat) : Prop := x' = x ∨ ∀ g, x' = some g → N ≤ g
def sb (va : Option Addr) : Option Nat := va.map (·.block)
theorem sb_own (va : Option Addr) (n c : Nat) : (Value.slice va n c).ownBlock = sb va := by cases va <;> rfl
def EStep (R B : Nat) (es' : List (Nat × Value)) (va : Option Addr) (lm : Option Nat) (w w' : World) : Prop :=
  ∃ va' vc' lm', EIs w' R B es' va' vc' lm' ∧ Same w.heap.size (sb va) (sb va') ∧ Same w.heap.size lm lm' ∧ Fr R (fun o => o = 70 ∨ o = 71) (fun k => sb va = some k ∨ lm = some k) w w'
theorem LastOk.below {w w' : World} {lm : Option Nat} {n : Nat} (h : LastOk w lm n) (hb : Below w.heap.size w w') : LastOk w' lm n := by
  rcases h with h | ⟨m, N, D, h1, h2, h3⟩
  · exact .inl h
  · exact .inr ⟨m, N, D, h1, below_ownsMap hb h2, h3⟩
theorem EIs.below {w w' : World} {R B : Nat} {es : List (Nat × Value)} {va : Option Addr} {vc : Nat} {lm : Option Nat} (h : EIs w R B es va vc lm) (hb : Below w.heap.size w w') (hR : R < w.heap.size) : EIs w' R B es va vc lm :=
  ⟨(hb.cell (p := ⟨R, 70, none⟩) hR).trans h.c70, (hb.cell (p := ⟨R, 71, none⟩) hR).trans h.c71, below_ownsRow hb h.own, h.last.below hb⟩
theorem Same.mono {N N' : Nat} {x x' : Option Nat} (h : Same N x x') (hN : N' ≤ N) : Same N' x x' := h.imp id (fun k g e => Nat.le_trans hN (k g e))
theorem EStep.before {R B : Nat} {es' : List (Nat × Value)} {va : Option Addr} {lm : Option Nat} {w w1 w' : World} (h : EStep R B es' va lm w1 w') (hb : Below w.heap.size w w1) (hR : R < w.heap.size) : EStep R B es' va lm w w' := by
  obtain ⟨va', vc', lm', h1, h2, h3, h4⟩ := h
  exact ⟨va', vc', lm', h1, h2.mono hb.size, h3.mono hb.size, ((Fr.refl _ _ _ w).below hb hR).next h4 (fun _ h => h) (fun _ h => .inl h)⟩
theorem EStep.after {R B : Nat} {es' : List (Nat × Value)} {va : Option Addr} {lm : Option Nat} {w w1 w' : World} (h : EStep R B es' va lm w w1) (hb : Below w1.heap.size w1 w') (hR : R < w.heap.size) : EStep R B es' va lm w w' := by
  obtain ⟨va', vc', lm', h1, h2, h3, h4⟩ := h
  exact ⟨va', vc', lm', h1.below hb (Nat.lt_of_lt_of_le hR h4.size), h2, h3, h4.below hb hR⟩
theorem put_e (R B t : Nat) (va : Option Addr) (vc : Nat) (lm : Option Nat) (es : List (Nat × Value)) (r1 r2 o run : Int) (pa : Option Addr) (np pc : Nat) (qa : Option Addr) (nr qc : Nat) (w : World)
    (hR : R < B) (hB : B ≤ w.heap.size) (ht : t < 2000) (h0 : 0 < nr) (h1 : nr ≤ 1000) (hlen : es.length ≤ 4096) (hf : ∀ o, w.frozen? ⟨R, o, none⟩ = false) (hE : EIs w R B es va vc lm) (hpm : ∀ e ∈ es, IsPm r1 r2 e.2) :
    Calls Yba.prog 64 #[.pointer (some ⟨R, 70, none⟩), .int .u64 (t : Int), pm r1 r2 o run (.slice pa np pc) (.slice qa nr qc)] w fun e w' => e = .returned (.tuple #[]) ∧ EStep R B (es ++ [(t, pm r1 r2 o run (.slice pa np pc) (.slice qa nr qc))]) va lm w w' := by
  refine (put_any R B t va vc lm es r1 r2 o run pa np pc qa nr qc w hR hB ht h0 h1 hlen hf hE.c70 hE.c71 hE.own hE.last hpm).mono ?_
  rintro e w' ⟨rfl, va', vc', lm', h1, h2, h3, h4, h5, h6, h7⟩
  simp only [sb_own] at h5 h7
  exact ⟨rfl, va', vc', lm', ⟨by simpa using h1, h2, by simpa using h3, by simpa using h4⟩, h5, h6, h7⟩
set_option maxRecDepth 100000 in
set_option maxHeartbeats 2000000 in
theorem add_now (R B t : Nat) (va : Option Addr) (vc : Nat) (lm : Option Nat) (es : List (Nat × Value)) (r1 r2 o run : Int) (pa : Option Addr) (np pc : Nat) (qa : Option Addr) (nr qc : Nat) (w : World)
    (hR : R < B) (hB : B ≤ w.heap.size) (ht : t < 2000) (h0 : 0 < nr) (h1 : nr ≤ 1000) (hlen : es.length ≤ 4096) (hf : ∀ o, w.frozen? ⟨R, o, none⟩ = false) (hE : EIs w R B es va vc lm) (hpm : ∀ e ∈ es, IsPm r1 r2 e.2) :
    Calls Yba.prog 51 #[.pointer (some ⟨R, 70, none⟩), .int .u64 (t : Int), pm r1 r2 o run (.slice pa np pc) (.slice qa nr qc)] w fun e w' => e = .returned (.tuple #[]) ∧ EStep R B (es ++ [(t, pm r1 r2 o run (.slice pa np pc) (.slice qa nr qc))]) va lm w w' := by
  have hRw : R < w.heap.size := Nat.lt_of_lt_of_le hR hB
  have hz : ((nr : Int) == 0) = false := by simp; omega
  have Hc : Hid _ := held_any t r1 r2 o run pa qa np pc nr qc w
  rw [hz] at Hc
  have Hp : Hid (∀ w1, Below w.heap.size w w1 → Calls Yba.prog 64 #[.pointer (some ⟨R, 70, none⟩), .int .u64 (t : Int), pm r1 r2 o run (.slice pa np pc) (.slice qa nr qc)] w1 fun e w' => e = .returned (.tuple #[]) ∧ EStep R B (es ++ [(t, pm r1 r2 o run (.slice pa np pc) (.slice qa nr qc))]) va lm w w') := fun w1 hb =>
    (put_e R B t va vc lm es r1 r2 o run pa np pc qa nr qc w1 hR (Nat.le_trans hB hb.size) ht h0 h1 hlen (fun o => (hb.frozen (p := ⟨R, o, none⟩) hRw).trans (hf o)) (hE.below hb hRw) hpm).mono (fun e w' h => ⟨h.1, h.2.before hb hRw⟩)
  clear hf hE hpm
  generalize pm r1 r2 o run (.slice pa np pc) (.slice qa nr qc) = msg at *
  go_enter Yba.func51, Yba.ntmps51
  go_wp2_with fail
  refine Calls.mono Hc.out ?_
  rintro e w1 ⟨rfl, hb1⟩
  go_wp2_with fail
  refine Calls.mono (Hp.out _ (hb1.alloc hb1.size _)) ?_
  rintro e w2 ⟨rfl, hS⟩
  have HS : Hid _ := hS
  clear hS
  go_wp2
  refine bodyPost_ret (results_none rfl _ _ _) rfl ?_
  exact ⟨rfl, HS.out⟩
end Go.Proofs.Ybulkauni.lawS2296ATells
