import Derived.Test.YbulkauniTModel
namespace Go.Proofs.Ybulkauni.lawS2296ATells
open Go.ChangeShapes Go.WideShapes Go.ChangeAt Go.RowKit Go.Maps
open Go.Proofs.Ybulkauni.lawS2296CSendTaken (RowIs clone_any below_drewN bcell)
/-- The replica and the wanted round. -/
structure Base (w : World) (R m q : Nat) (r1 : Int) : Prop where
  hR : R < w.heap.size
  hm : m < w.heap.size
  hq : q < w.heap.size
  mR : m ≠ R
  c39 : w.cell? ⟨R, 39, none⟩ = some (.int .u64 r1)
  c40 : w.cell? ⟨R, 40, none⟩ = some (.int .u64 1)
  c52 : w.cell? ⟨R, 52, none⟩ = some (.map (some m))
  c66 : w.cell? ⟨R, 66, none⟩ = some (.slice none 0 0)
  c68 : w.cell? ⟨R, 68, none⟩ = some (.slice none 0 0)
  c69 : w.cell? ⟨R, 69, none⟩ = some (.map none)
  c70 : w.cell? ⟨R, 70, none⟩ = some (.slice none 0 0)
  c71 : w.cell? ⟨R, 71, none⟩ = some (.map none)
  fz : ∀ o, w.frozen? ⟨R, o, none⟩ = false
  q0 : w.cell? ⟨q, 0, none⟩ = some (.int .u64 r1)
  q1 : w.cell? ⟨q, 1, none⟩ = some (.int .u64 1)
theorem Base.keep {w w' : World} {R m q : Nat} {r1 : Int} (h : Base w R m q r1) (hs : w.heap.size ≤ w'.heap.size) (hbR : w'.heap[R]? = w.heap[R]?) (hbq : w'.heap[q]? = w.heap[q]?) : Base w' R m q r1 := by
  have c : ∀ o, w'.cell? ⟨R, o, none⟩ = w.cell? ⟨R, o, none⟩ := fun o => World.cell?_of_block (w := w) hbR
  have d : ∀ o, w'.cell? ⟨q, o, none⟩ = w.cell? ⟨q, o, none⟩ := fun o => World.cell?_of_block (w := w) hbq
  exact ⟨Nat.lt_of_lt_of_le h.hR hs, Nat.lt_of_lt_of_le h.hm hs, Nat.lt_of_lt_of_le h.hq hs, h.mR, (c _).trans h.c39, (c _).trans h.c40, (c _).trans h.c52, (c _).trans h.c66, (c _).trans h.c68, (c _).trans h.c69, (c _).trans h.c70, (c _).trans h.c71, fun o => (World.frozen?_of_block (w := w) hbR).trans (h.fz o), (d _).trans h.q0, (d _).trans h.q1⟩
def Of (e : Ent) (g : Nat) : Prop := g = e.b ∨ sb e.pa = some g ∨ sb e.qa = some g
structure EOk (w : World) (R : Nat) (e : Ent) : Prop where
  pl : PlAt w e
  bR : e.b ≠ R
  good : Good e.c
  np : e.np ≤ 2
  nr : e.nr ≤ 2
  p : PRow w e.pa e.np
  q : QRow w e.qa e.nr
  lt : ∀ g, Of e g → g < w.heap.size
theorem EOk.keep {w w' : World} {R : Nat} {e : Ent} (h : EOk w R e) (hs : w.heap.size ≤ w'.heap.size) (hb : ∀ g o v, w.cell? ⟨g, o, none⟩ = some v → Of e g → w'.heap[g]? = w.heap[g]?) : EOk w' R e := by
  refine ⟨h.pl.keep hs (hb e.b 0 _ h.pl.2.1 (.inl rfl)), h.bR, h.good, h.np, h.nr, ?_, ?_, fun g hg => Nat.lt_of_lt_of_le (h.lt g hg) hs⟩
  · intro k hk
    obtain ⟨b, hpa, h1, h2, h3⟩ := h.p k hk
    have e1 := hb b _ _ h2 (.inr (.inl (by rw [hpa]; rfl)))
    exact ⟨b, hpa, Nat.lt_of_lt_of_le h1 hs, (World.cell?_of_block (w := w) e1).trans h2, (World.cell?_of_block (w := w) e1).trans h3⟩
  · intro k hk
    obtain ⟨b, hpa, h1, h2⟩ := h.q k hk
    have e1 := hb b _ _ h2 (.inr (.inr (by rw [hpa]; rfl)))
    exact ⟨b, hpa, Nat.lt_of_lt_of_le h1 hs, (World.cell?_of_block (w := w) e1).trans h2⟩
def Uses (R q : Nat) (l : List Ent) (k : Nat) : Prop := k = R ∨ k = q ∨ ∃ e ∈ l, Of e k
theorem cell_lt {w : World} {g o : Nat} {v : Value} (h : w.cell? ⟨g, o, none⟩ = some v) : g < w.heap.size := World.block_lt_of_cell? w _ h
theorem cell_map {w : World} {g o m n : Nat} {v : Value} {H : Type} {k : TypeId} {Rd : Value → Option (DataW H × List MemPlace)} {D : DataW H} (h : w.cell? ⟨g, o, none⟩ = some v) (hm : w.ownsMap Yba.prog k Rd m n D) : g ≠ m := (map_ne h hm).symm
/-- The law's loop: the map holds l, the row holds lr. -/
structure LI (w0 w : World) (R m q : Nat) (r1 : Int) (n : Nat) (l lr : List Ent) (va : Option Addr) (vc : Nat) : Prop where
  base : Base w R m q r1
  tel : TelN w m n l
  ents : ∀ e ∈ l, EOk w R e
  inc : Inc l
  len : lr.length ≤ n
  own : w.ownsRow w0.heap.size 75 5 (.slice va lr.length vc) lr.length (rowM lr)
  apart : ∀ g, sb va = some g → ¬ Uses R q l g
  low : Below w0.heap.size w0 w
  bR : w0.heap.size ≤ R
  bm : w0.heap.size ≤ m
theorem LI.below {w0 w w' : World} {R m q : Nat} {r1 : Int} {n : Nat} {l lr : List Ent} {va : Option Addr} {vc : Nat} (h : LI w0 w R m q r1 n l lr va vc) (hb : Below w.heap.size w w') : LI w0 w' R m q r1 n l lr va vc :=
  ⟨h.base.keep hb.size (hb.block R h.base.hR) (hb.block q h.base.hq), h.tel.keep (hb.block m h.base.hm), fun e he => (h.ents e he).keep hb.size (fun g _ _ hc _ => hb.block g (cell_lt hc)), h.inc, h.len, below_ownsRow hb h.own, h.apart, h.low.trans (hb.mono h.low.size), h.bR, h.bm⟩
theorem LI.told {w0 w w' : World} {R m q : Nat} {r1 : Int} {n : Nat} {l : List Ent} {va : Option Addr} {vc : Nat} (h : LI w0 w R m q r1 n l l va vc) {e : Ent} (he : EOk w R e) (hnew : ∀ g, Of e g → sb va ≠ some g) (hT : TelN w' m (n + 1) (upd e l)) (hturn : w.drew.mapTurned w' m) : LI w0 w' R m q r1 (n + 1) (upd e l) l va vc := by
  have hg := hturn.grown
  obtain ⟨D, hD, -⟩ := h.tel
  have hbl : ∀ g o v, w.cell? ⟨g, o, none⟩ = some v → w'.heap[g]? = w.heap[g]? := fun g o v hc => hg.block g (cell_lt hc) (fun q => cell_map hc hD (Option.some.inj q))
  refine ⟨h.base.keep hg.size (hbl R _ _ h.base.c39) (hbl q _ _ h.base.q0), hT, ?_, inc_upd h.inc, Nat.le_succ_of_le h.len, ?_, ?_, h.low.grown (w' := w') (row := some m) ⟨hg.os, hg.tape, hg.output, hg.size, hg.block⟩ h.low.size (fun k q => by cases q; exact h.bm), h.bR, h.bm⟩
  · intro x hx
    rcases (mem_upd h.inc x).1 hx with rfl | ⟨hx, -⟩
    · exact he.keep hg.size (fun g o v hc _ => hbl g o v hc)
    · exact (h.ents x hx).keep hg.size (fun g o v hc _ => hbl g o v hc)
  · have hro := h.own
    obtain ⟨h1, h2⟩ := hro
    refine ⟨h1, h2.imp id ?_⟩
    rintro ⟨g, cap, cur, hv, hb, hh, r⟩
    exact ⟨g, cap, cur, hv, hb, (hg.block g (Array.getElem?_eq_some_iff.1 hh).1 (fun q => by
      obtain ⟨es, clock, hh', -⟩ := hD
      cases q
      rw [hh] at hh'
      cases hh')).trans hh, r⟩
  · intro g hgv hu
    rcases hu with hu | hu | ⟨x, hx, hu⟩
    · exact h.apart g hgv (.inl hu)
    · exact h.apart g hgv (.inr (.inl hu))
    · rcases (mem_upd h.inc x).1 hx with rfl | ⟨hx, -⟩
      · exact hnew g hu hgv
      · exact h.apart g hgv (.inr (.inr ⟨x, hx, hu⟩))
/-- The row alone has turned. -/
theorem LI.turn {w0 w w' : World} {R m q : Nat} {r1 : Int} {n : Nat} {l lr lr' : List Ent} {va va' : Option Addr} {vc vc' : Nat} (h : LI w0 w R m q r1 n l lr va vc) (hg : w.grownBy w' (sb va)) (hs : Same w.heap.size (sb va) (sb va')) (hown : w'.ownsRow w0.heap.size 75 5 (.slice va' lr'.length vc') lr'.length (rowM lr')) (hl : lr'.length ≤ n) : LI w0 w' R m q r1 n l lr' va' vc' := by
  have hne : ∀ g, Uses R q l g → some g ≠ sb va := fun g hu e => h.apart g e.symm hu
  have hgm : some m ≠ sb va := by
    obtain ⟨D, hD, -⟩ := h.tel
    exact fun e => row_map h.own hD e.symm
  refine ⟨h.base.keep hg.size (hg.block R h.base.hR (hne R (.inl rfl))) (hg.block q h.base.hq (hne q (.inr (.inl rfl)))), h.tel.keep (hg.block m h.base.hm hgm), ?_, h.inc, hl, hown, ?_, ?_, h.bR, h.bm⟩
  · intro x hx
    exact (h.ents x hx).keep hg.size (fun g o v hc ho => hg.block g (cell_lt hc) (hne g (.inr (.inr ⟨x, hx, ho⟩))))
  · intro g hgv hu
    rcases hs with e | e
    · exact h.apart g (by rw [← e]; exact hgv) hu
    · have hgs := e g hgv
      rcases hu with hu | hu | ⟨x, hx, hu⟩
      · have := h.base.hR; omega
      · have := h.base.hq; omega
      · have := (h.ents x hx).lt g hu; omega
  · exact h.low.grown hg h.low.size (fun k e => (row_lt h.own k e).1)
end Go.Proofs.Ybulkauni.lawS2296ATells
