import Derived.Test.YbulkauniTApart
namespace Go.Proofs.Ybulkauni.lawS2296ATells
open Go.ChangeShapes Go.WideShapes Go.ChangeAt Go.RowKit Go.Maps
open Go.Proofs.Ybulkauni.lawS2296CSendTaken (RowIs clone_any below_drewN bcell)
theorem row_lt {w : World} {base e size n c : Nat} {va : Option Addr} {xs : List Value} (h : w.ownsRow base e size (.slice va n c) n xs) : ∀ g, sb va = some g → base ≤ g ∧ g < w.heap.size := by
  intro g hg
  rcases h.2 with ⟨h, -⟩ | ⟨g', cap, cur, h, hb, hh, -⟩
  · cases h; cases hg
  · cases h; cases hg; exact ⟨hb, (Array.getElem?_eq_some_iff.1 hh).1⟩
theorem row_map {w : World} {base e size n c : Nat} {va : Option Addr} {xs : List Value} (h : w.ownsRow base e size (.slice va n c) n xs) {H : Type} {k : TypeId} {Rd : Value → Option (DataW H × List MemPlace)} {m N : Nat} {D : DataW H} (hm : w.ownsMap Yba.prog k Rd m N D) : sb va ≠ some m := by
  intro hg
  rcases h.2 with ⟨h, -⟩ | ⟨g', cap, cur, h, hb, hh, -⟩
  · cases h; cases hg
  · cases h
    cases hg
    obtain ⟨es', clock, hh', -⟩ := hm
    rw [hh] at hh'
    cases hh'
/-- Both outboxes, their blocks from B on and apart. -/
structure Two (w : World) (R B C : Nat) (ap es : List (Nat × Value)) (va : Option Addr) (vc : Nat) (hm : Option Nat) (ve : Option Addr) (ec : Nat) (lm : Option Nat) : Prop where
  a : AIs w R B C ap va vc hm
  e : EIs w R B es ve ec lm
  rows : ∀ g, sb va = some g → sb ve ≠ some g
  maps : ∀ g, hm = some g → lm ≠ some g
  hmB : ∀ g, hm = some g → B ≤ g
  lmB : ∀ g, lm = some g → B ≤ g
def TFr (R B : Nat) (w w' : World) : Prop := Fr R (fun o => 68 ≤ o ∧ o ≤ 71) (fun k => B ≤ k) w w'
theorem held_lt {w : World} {hm : Option Nat} {n C : Nat} (h : HeldOk w hm n C) : ∀ g, hm = some g → g < w.heap.size := by
  rintro g rfl
  rcases h with h | ⟨m, N, D, h1, h2, -⟩
  · cases h
  · cases h1; exact h2.lt
theorem last_lt {w : World} {lm : Option Nat} {n : Nat} (h : LastOk w lm n) : ∀ g, lm = some g → g < w.heap.size := by
  rintro g rfl
  rcases h with h | ⟨m, N, D, h1, h2, -⟩
  · cases h
  · cases h1; exact h2.lt
theorem Two.stepA {w w' : World} {R B C C' : Nat} {ap ap' es : List (Nat × Value)} {va : Option Addr} {vc : Nat} {hm : Option Nat} {ve : Option Addr} {ec : Nat} {lm : Option Nat} (h : Two w R B C ap es va vc hm ve ec lm) (hR : R < B) (hB : B ≤ w.heap.size) (hs : AStep R B C' ap' va hm w w') :
    ∃ va' vc' hm', Two w' R B C' ap' es va' vc' hm' ve ec lm ∧ TFr R B w w' := by
  obtain ⟨va', vc', hm', h1, h2, h3, h4⟩ := hs
  have hx : ∀ g, (sb ve = some g ∨ lm = some g) → B ≤ g ∧ g < w.heap.size := fun g hg => hg.elim (fun q => row_lt h.e.own g q) (fun q => ⟨h.lmB g q, last_lt h.e.last g q⟩)
  have hn : ∀ g, (sb ve = some g ∨ lm = some g) → ¬ (sb va = some g ∨ hm = some g) := by
    rintro g (q | q) (r | r)
    · exact h.rows g r q
    · rcases h.a.held with e | ⟨m, N, D, e, hD, -⟩
      · rw [e] at r; cases r
      · rw [e] at r; cases r; exact row_map h.e.own hD q
    · rcases h.e.last with e | ⟨m, N, D, e, hD, -⟩
      · rw [e] at q; cases q
      · rw [e] at q; cases q; exact row_map h.a.own hD r
    · exact h.maps g r q
  refine ⟨va', vc', hm', ⟨h1, ⟨(h4.cell 70 (by omega)).trans h.e.c70, (h4.cell 71 (by omega)).trans h.e.c71, h4.ownsRow h.e.own (fun g hg => ?_), ?_⟩, ?_, ?_, ?_, h.lmB⟩, ?_⟩
  · rw [sb_own] at hg
    exact ⟨by have := (hx g (.inl hg)).1; omega, hn g (.inl hg)⟩
  · rcases h.e.last with e | ⟨m, N, D, e, hD, r⟩
    · exact .inl e
    · exact .inr ⟨m, N, D, e, h4.ownsMap hD (by have := (hx m (.inr e)).1; omega) (hn m (.inr e)), r⟩
  · intro g hg hg'
    rcases h2 with q | q
    · exact h.rows g (by rw [← q]; exact hg) hg'
    · have := q g hg; have := (hx g (.inl hg')).2; omega
  · intro g hg hg'
    rcases h3 with q | q
    · exact h.maps g (by rw [← q]; exact hg) hg'
    · have := q g hg; have := (hx g (.inr hg')).2; omega
  · intro g hg
    rcases h3 with q | q
    · exact h.hmB g (by rw [← q]; exact hg)
    · have := q g hg; omega
  · exact (Fr.refl _ _ _ w).next h4 (fun o ho => by rcases ho with rfl | rfl <;> omega) (fun i hi => .inl (hi.elim (fun q => (row_lt h.a.own i q).1) (fun q => h.hmB i q)))
theorem Two.stepE {w w' : World} {R B C : Nat} {ap es es' : List (Nat × Value)} {va : Option Addr} {vc : Nat} {hm : Option Nat} {ve : Option Addr} {ec : Nat} {lm : Option Nat} (h : Two w R B C ap es va vc hm ve ec lm) (hR : R < B) (hB : B ≤ w.heap.size) (hs : EStep R B es' ve lm w w') :
    ∃ ve' ec' lm', Two w' R B C ap es' va vc hm ve' ec' lm' ∧ TFr R B w w' := by
  obtain ⟨va', vc', hm', h1, h2, h3, h4⟩ := hs
  have hx : ∀ g, (sb va = some g ∨ hm = some g) → B ≤ g ∧ g < w.heap.size := fun g hg => hg.elim (fun q => row_lt h.a.own g q) (fun q => ⟨h.hmB g q, held_lt h.a.held g q⟩)
  have hn : ∀ g, (sb va = some g ∨ hm = some g) → ¬ (sb ve = some g ∨ lm = some g) := by
    rintro g (q | q) (r | r)
    · exact h.rows g q r
    · rcases h.e.last with e | ⟨m, N, D, e, hD, -⟩
      · rw [e] at r; cases r
      · rw [e] at r; cases r; exact row_map h.a.own hD q
    · rcases h.a.held with e | ⟨m, N, D, e, hD, -⟩
      · rw [e] at q; cases q
      · rw [e] at q; cases q; exact row_map h.e.own hD r
    · exact h.maps g q r
  refine ⟨va', vc', hm', ⟨⟨(h4.cell 68 (by omega)).trans h.a.c68, (h4.cell 69 (by omega)).trans h.a.c69, h4.ownsRow h.a.own (fun g hg => ?_), ?_⟩, h1, ?_, ?_, h.hmB, ?_⟩, ?_⟩
  · rw [sb_own] at hg
    exact ⟨by have := (hx g (.inl hg)).1; omega, hn g (.inl hg)⟩
  · rcases h.a.held with e | ⟨m, N, D, e, hD, r⟩
    · exact .inl e
    · exact .inr ⟨m, N, D, e, h4.ownsMap hD (by have := (hx m (.inr e)).1; omega) (hn m (.inr e)), r⟩
  · intro g hg hg'
    rcases h2 with q | q
    · exact h.rows g hg (by rw [← q]; exact hg')
    · have := q g hg'; have := (hx g (.inl hg)).2; omega
  · intro g hg hg'
    rcases h3 with q | q
    · exact h.maps g hg (by rw [← q]; exact hg')
    · have := q g hg'; have := (hx g (.inr hg)).2; omega
  · intro g hg
    rcases h3 with q | q
    · exact h.lmB g (by rw [← q]; exact hg)
    · have := q g hg; omega
  · exact (Fr.refl _ _ _ w).next h4 (fun o ho => by rcases ho with rfl | rfl <;> omega) (fun i hi => .inl (hi.elim (fun q => (row_lt h.e.own i q).1) (fun q => h.lmB i q)))
theorem Two.below {w w' : World} {R B C : Nat} {ap es : List (Nat × Value)} {va : Option Addr} {vc : Nat} {hm : Option Nat} {ve : Option Addr} {ec : Nat} {lm : Option Nat} (h : Two w R B C ap es va vc hm ve ec lm) (hb : Below w.heap.size w w') (hR : R < w.heap.size) : Two w' R B C ap es va vc hm ve ec lm :=
  ⟨h.a.below hb hR, h.e.below hb hR, h.rows, h.maps, h.hmB, h.lmB⟩
theorem Two.mono {w : World} {R B C C' : Nat} {ap es : List (Nat × Value)} {va : Option Addr} {vc : Nat} {hm : Option Nat} {ve : Option Addr} {ec : Nat} {lm : Option Nat} (h : Two w R B C ap es va vc hm ve ec lm) (hC : C ≤ C') : Two w R B C' ap es va vc hm ve ec lm :=
  ⟨⟨h.a.c68, h.a.c69, h.a.own, h.a.held.mono hC⟩, h.e, h.rows, h.maps, h.hmB, h.lmB⟩
def Out (w : World) (R B C : Nat) (ap es : List (Nat × Value)) : Prop := ∃ va vc hm ve ec lm, Two w R B C ap es va vc hm ve ec lm
set_option maxRecDepth 100000 in
set_option maxHeartbeats 1000000 in
theorem send_any (R : Nat) (t x : Value) (w : World) {Q : Ending → World → Prop} (h : Calls Yba.prog 51 #[.pointer (some ⟨R, 66, none⟩), t, x] w fun e w' => e = .returned (.tuple #[]) ∧ Q (.returned (.tuple #[])) w') :
    Calls Yba.prog 40 #[.pointer (some ⟨R, 0, none⟩), t, x] w Q := by
  have H : Hid _ := h
  clear h
  go_enter Yba.func40, Yba.ntmps40
  go_wp2_with fail
  refine Calls.mono H.out ?_
  rintro e w1 ⟨rfl, hq⟩
  have HQ : Hid _ := hq
  clear hq
  go_wp2
  go_end0
  exact HQ.out
set_option maxRecDepth 100000 in
set_option maxHeartbeats 1000000 in
theorem sendNow_any (R : Nat) (t x : Value) (w : World) {Q : Ending → World → Prop} (h : Calls Yba.prog 51 #[.pointer (some ⟨R, 70, none⟩), t, x] w fun e w' => e = .returned (.tuple #[]) ∧ Q (.returned (.tuple #[])) w') :
    Calls Yba.prog 41 #[.pointer (some ⟨R, 0, none⟩), t, x] w Q := by
  have H : Hid _ := h
  clear h
  go_enter Yba.func41, Yba.ntmps41
  go_wp2_with fail
  refine Calls.mono H.out ?_
  rintro e w1 ⟨rfl, hq⟩
  have HQ : Hid _ := hq
  clear hq
  go_wp2
  go_end0
  exact HQ.out
end Go.Proofs.Ybulkauni.lawS2296ATells
