import Derived.Test.YbulkauniTAdd
namespace Go.Proofs.Ybulkauni.lawS2296ATells
open Go.ChangeShapes Go.WideShapes Go.ChangeAt Go.RowKit Go.Maps
open Go.Proofs.Ybulkauni.lawS2296CSendTaken (RowIs clone_any below_drewN bcell)
/-- The origin that is named. -/
def og (c : Nat) : Nat := if c / 8 % 8 = c / 64 then 0 else c / 8 % 8
/-- A code of a passage that the law may make. -/
def Good (c : Nat) : Prop := c < 512 ∧ 0 < c / 8 % 8
theorem og_lt (c : Nat) : og c < 2000 := by unfold og; split <;> omega
theorem good_inj {c c' : Nat} (h : Good c) (h' : Good c') (e1 : c / 64 = c' / 64) (e2 : og c = og c') (e3 : c % 8 = c' % 8) : c = c' := by
  obtain ⟨h1, h2⟩ := h
  obtain ⟨h1', h2'⟩ := h'
  unfold og at e2
  split at e2 <;> split at e2 <;> omega
def hk (c : Nat) : Lit := hl (c / 64) (og c) (c % 8)
theorem hk_inj {c c' : Nat} (h : Good c) (h' : Good c') (e : hk c = hk c') : c = c' := by
  obtain ⟨a1, a2, a3⟩ := hl_inj (by have := h.1; omega) (og_lt c) (by omega) (by have := h'.1; omega) (og_lt c') (by omega) e
  exact good_inj h h' a1 a2 a3
/-- No key from C on is held. -/
def HeldOk (w : World) (hm : Option Nat) (n C : Nat) : Prop :=
  hm = none ∨ ∃ m N, ∃ D : DataW Unit, hm = some m ∧ w.ownsMap Yba.prog 170 (plainElem Yba.prog 3) m N D ∧ N ≤ n ∧ ∀ c, C ≤ c → Good c → has D (hk c) = false
theorem HeldOk.below {w w' : World} {hm : Option Nat} {n C : Nat} (h : HeldOk w hm n C) (hb : Below w.heap.size w w') : HeldOk w' hm n C := by
  rcases h with h | ⟨m, N, D, h1, h2, h3⟩
  · exact .inl h
  · exact .inr ⟨m, N, D, h1, below_ownsMap hb h2, h3⟩
theorem HeldOk.mono {w : World} {hm : Option Nat} {n C C' : Nat} (h : HeldOk w hm n C) (hC : C ≤ C') : HeldOk w hm n C' := by
  rcases h with h | ⟨m, N, D, h1, h2, h3, h4⟩
  · exact .inl h
  · exact .inr ⟨m, N, D, h1, h2, h3, fun c hc => h4 c (Nat.le_trans hC hc)⟩
theorem held_step {D : DataW Unit} {C c : Nat} (h : ∀ c, C ≤ c → Good c → has D (hk c) = false) (hc : C ≤ c) (hg : Good c) (v : DataW Unit) : ∀ c', c + 1 ≤ c' → Good c' → has (D.put (hk c) v) (hk c') = false := by
  intro c' h1 h2
  rw [has_put_other (fun e => by have := hk_inj h2 hg e; omega)]
  exact h c' (by omega) h2
/-- The outbox for the Update. -/
structure AIs (w : World) (R B C : Nat) (es : List (Nat × Value)) (va : Option Addr) (vc : Nat) (hm : Option Nat) : Prop where
  c68 : w.cell? ⟨R, 68, none⟩ = some (.slice va es.length vc)
  c69 : w.cell? ⟨R, 69, none⟩ = some (.map hm)
  own : w.ownsRow B 81 2 (.slice va es.length vc) es.length (rowE es)
  held : HeldOk w hm es.length C
def AStep (R B C : Nat) (es' : List (Nat × Value)) (va : Option Addr) (hm : Option Nat) (w w' : World) : Prop :=
  ∃ va' vc' hm', AIs w' R B C es' va' vc' hm' ∧ Same w.heap.size (sb va) (sb va') ∧ Same w.heap.size hm hm' ∧ Fr R (fun o => o = 68 ∨ o = 69) (fun k => sb va = some k ∨ hm = some k) w w'
theorem AIs.below {w w' : World} {R B C : Nat} {es : List (Nat × Value)} {va : Option Addr} {vc : Nat} {hm : Option Nat} (h : AIs w R B C es va vc hm) (hb : Below w.heap.size w w') (hR : R < w.heap.size) : AIs w' R B C es va vc hm :=
  ⟨(hb.cell (p := ⟨R, 68, none⟩) hR).trans h.c68, (hb.cell (p := ⟨R, 69, none⟩) hR).trans h.c69, below_ownsRow hb h.own, h.held.below hb⟩
theorem AStep.before {R B C : Nat} {es' : List (Nat × Value)} {va : Option Addr} {hm : Option Nat} {w w1 w' : World} (h : AStep R B C es' va hm w1 w') (hb : Below w.heap.size w w1) (hR : R < w.heap.size) : AStep R B C es' va hm w w' := by
  obtain ⟨va', vc', hm', h1, h2, h3, h4⟩ := h
  exact ⟨va', vc', hm', h1, h2.mono hb.size, h3.mono hb.size, ((Fr.refl _ _ _ w).below hb hR).next h4 (fun _ h => h) (fun _ h => .inl h)⟩
/-- The cut's word behind 'if o.held == nil'. -/
def Mid (w : World) (R B C : Nat) (es : List (Nat × Value)) (va : Option Addr) (vc : Nat) (hm : Option Nat) (wx : World) (m N : Nat) (D : DataW Unit) : Prop :=
  wx.ownsRow B 81 2 (.slice va es.length vc) es.length (rowE es) ∧ wx.ownsMap Yba.prog 170 (plainElem Yba.prog 3) m N D ∧ N ≤ es.length ∧ (∀ c, C ≤ c → Good c → has D (hk c) = false) ∧ m ≠ R ∧ (hm = some m ∨ w.heap.size ≤ m) ∧ Fr R (fun o => o = 68 ∨ o = 69) (fun k => sb va = some k ∨ hm = some k) w wx
theorem fresh_map {w v : World} {R B C : Nat} {es : List (Nat × Value)} {va : Option Addr} {vc : Nat} (hR : R < B) (hB : B ≤ w.heap.size) (hA : AIs v R B C es va vc none) (hF : Fr R (fun o => o = 68 ∨ o = 69) (fun k => sb va = some k ∨ (none : Option Nat) = some k) w v) :
    ((v.setCell ⟨R, 69, none⟩ (.map (some v.heap.size))).alloc (.map #[] 0)).cell? ⟨R, 69, none⟩ = some (.map (some v.heap.size)) ∧ ((v.setCell ⟨R, 69, none⟩ (.map (some v.heap.size))).alloc (.map #[] 0)).cell? ⟨R, 68, none⟩ = some (.slice va es.length vc) ∧
      Mid w R B C es va vc none ((v.setCell ⟨R, 69, none⟩ (.map (some v.heap.size))).alloc (.map #[] 0)) v.heap.size 0 (.map []) := by
  have hRw : R < w.heap.size := Nat.lt_of_lt_of_le hR hB
  have hRc : R < v.heap.size := Nat.lt_of_lt_of_le hRw hF.size
  have hRs : R < (v.setCell ⟨R, 69, none⟩ (.map (some v.heap.size))).heap.size := by simpa using hRc
  refine ⟨(World.cell?_alloc_lt _ _ _ hRs).trans (csame hA.c69), (World.cell?_alloc_lt _ _ _ hRs).trans ((World.cell?_setCell_other _ _ _ _ (by intro he; injection he with _ he; exact absurd he (by decide))).trans hA.c68), ?_, ?_, Nat.zero_le _, fun _ _ _ => rfl, by omega, .inr hF.size, (hF.setCell 69 (.inr rfl) _).alloc hRw _⟩
  · exact below_ownsRow ((Below.refl _ _).alloc (Nat.le_refl _) _) (ownsRow_setCell_below hA.own hR _)
  · have := World.ownsMap_made (H := Unit) (v.setCell ⟨R, 69, none⟩ (.map (some v.heap.size))) Yba.prog 170 (plainElem Yba.prog 3)
    rw [show (v.setCell ⟨R, 69, none⟩ (.map (some v.heap.size))).heap.size = v.heap.size by simp] at this
    exact this
set_option maxRecDepth 100000 in
set_option maxHeartbeats 2000000 in
theorem add_apart (R B C c : Nat) (va : Option Addr) (vc : Nat) (hm : Option Nat) (es : List (Nat × Value)) (r1 r2 : Int) (pa : Option Addr) (np pc : Nat) (w : World)
    (hR : R < B) (hB : B ≤ w.heap.size) (hC : C ≤ c) (hg : Good c) (hlen : es.length ≤ 4096) (hf : ∀ o, w.frozen? ⟨R, o, none⟩ = false) (hA : AIs w R B C es va vc hm) :
    Calls Yba.prog 51 #[.pointer (some ⟨R, 66, none⟩), .int .u64 ((c / 64 : Nat) : Int), pm r1 r2 ((og c : Nat) : Int) ((c % 8 : Nat) : Int) (.slice pa np pc) (.slice none 0 0)] w fun e w' => e = .returned (.tuple #[]) ∧ AStep R B (c + 1) (es ++ [(c / 64, pm r1 r2 ((og c : Nat) : Int) ((c % 8 : Nat) : Int) (.slice pa np pc) (.slice none 0 0))]) va hm w w' := by
  obtain ⟨i0, hi, hz0, hz1, hz2⟩ := info_parts Yba.info81
  have hRw : R < w.heap.size := Nat.lt_of_lt_of_le hR hB
  have Hc : Hid _ := held_any ((c / 64 : Nat) : Int) r1 r2 ((og c : Nat) : Int) ((c % 8 : Nat) : Int) pa none np pc 0 0 w
  have Hkey : Hid (keyOf Yba.prog 170 (.agg #[.int .u64 ((c / 64 : Nat) : Int), .bool true, .int .u64 ((og c : Nat) : Int), .int .u64 ((c % 8 : Nat) : Int)]) = some (hk c)) := hkey_is _ _ _ (by have := hg.1; omega) (og_lt c) (by omega)
  have Hf : Hid _ := hf
  have HA : Hid _ := hA
  have Hst : Hid (∀ D : DataW Unit, (∀ c, C ≤ c → Good c → has D (hk c) = false) → ∀ v, ∀ c', c + 1 ≤ c' → Good c' → has (D.put (hk c) v) (hk c') = false) := fun D h v => held_step h hC hg v
  have Hno : Hid (∀ D : DataW Unit, (∀ c, C ≤ c → Good c → has D (hk c) = false) → has D (hk c) = false) := fun D h => h c hC hg
  clear hf hA hg
  generalize (c / 64) = t at *
  generalize og c = oo at *
  generalize c % 8 = rr at *
  obtain ⟨x, hmsg⟩ : ∃ x, pm r1 r2 (oo : Int) (rr : Int) (.slice pa np pc) (.slice none 0 0) = .iface 71 x := ⟨_, rfl⟩
  rw [hmsg] at Hc ⊢
  clear hmsg
  generalize hk c = kk at *
  go_enter Yba.func51, Yba.ntmps51
  go_wp2_with fail
  refine Calls.mono Hc.out ?_
  rintro e w1 ⟨rfl, hb1⟩
  obtain ⟨w2, hw2⟩ : ∃ w2, w2 = w1.alloc (.cells #[.int .u64 (t : Int), .bool true, .int .u64 (oo : Int), .int .u64 (rr : Int)] 170) := ⟨_, rfl⟩
  have hb2 : Below w.heap.size w w2 := by rw [hw2]; exact hb1.alloc hb1.size _
  have h20 : w2.cell? ⟨w1.heap.size, 0, none⟩ = some (.int .u64 (t : Int)) := by rw [hw2]; exact (by go_simp)
  have h21 : w2.cell? ⟨w1.heap.size, 1, none⟩ = some (.bool true) := by rw [hw2]; exact (by go_simp)
  have h22 : w2.cell? ⟨w1.heap.size, 2, none⟩ = some (.int .u64 (oo : Int)) := by rw [hw2]; exact (by go_simp)
  have h23 : w2.cell? ⟨w1.heap.size, 3, none⟩ = some (.int .u64 (rr : Int)) := by rw [hw2]; exact (by go_simp)
  have hs2 : w1.heap.size < w2.heap.size := by rw [hw2]; simp
  go_upto_region 3 with fail
  rw [← hw2]
  have hA2 := HA.out.below hb2 hRw
  have Hb2 : Hid _ := hb2
  have Hsz1 : Hid (w.heap.size ≤ w1.heap.size) := hb1.size
  clear hw2 Hc hb1 hb2
  obtain ⟨cv, hrun⟩ : ∃ cv : Int, ∀ q, (Instr.lookup 59 (.map hm) (.agg #[.int .u64 (t : Int), .bool true, .int .u64 (oo : Int), .int .u64 (rr : Int)]) true).run Yba.prog (w2.drewN q) = .ok (.tuple #[.int .i64 cv, .bool false]) (w2.drewN q) := by
    rcases hA2.held with rfl | ⟨m, N, D, rfl, hD, hN, hall⟩
    · exact ⟨0, fun q => look_nil true law170 Yba.underlying59 (zero3 _) Hkey.out⟩
    · obtain ⟨v, ps, hrun, hv⟩ := hD.look_ok law170 Yba.underlying59 (zero3 w2) (plainElem_int (a := 0) Yba.underlying3 (by decide)) Hkey.out
      obtain ⟨cv, rfl, hcv, -⟩ := plainElem_int_inv Yba.underlying3 hv
      rw [Hno.out D hall] at hrun
      refine ⟨cv, fun q => ?_⟩
      obtain ⟨v, ps, hrun', hv'⟩ := (show (w2.drewN q).ownsMap Yba.prog 170 (plainElem Yba.prog 3) m N D from hD).look_ok law170 Yba.underlying59 (zero3 _) (plainElem_int (a := 0) Yba.underlying3 (by decide)) Hkey.out
      obtain ⟨cv', rfl, hcv', -⟩ := plainElem_int_inv Yba.underlying3 hv'
      rw [Hno.out D hall] at hrun'
      have e1 := congrArg Prod.fst hcv
      have e2 := congrArg Prod.fst hcv'
      simp only at e1 e2
      rw [e1] at e2
      simp at e2
      rw [hrun', e2]
  have c68 := hA2.c68
  have c69 := hA2.c69
  have HA2 : Hid _ := hA2
  have hR2 : R < w2.heap.size := Nat.lt_of_lt_of_le hRw Hb2.out.size
  clear hA2
  have hq := fun (wx : World) (r : Option Nat) => run_eql_map_nil (P := Yba.prog) wx 59 170 3 r Yba.underlying59
  have hmm := @run_makeMap Yba.prog
  have Hfr : Hid (Fr R (fun o => o = 68 ∨ o = 69) (fun k => sb va = some k ∨ hm = some k) w w2) := (Fr.refl _ _ _ w).below Hb2.out hRw
  have f68 : w2.frozen? ⟨R, 68, none⟩ = false := (Hfr.out.frozen 68).trans (Hf.out 68)
  have f69 : w2.frozen? ⟨R, 69, none⟩ = false := (Hfr.out.frozen 69).trans (Hf.out 69)
  have Hne : Hid (∀ m N (D : DataW Unit), w2.ownsMap Yba.prog 170 (plainElem Yba.prog 3) m N D → m ≠ R) := fun m N D h => map_ne c69 h
  go_quiet (fail)
  have d68 : (w2.drewN nq).cell? ⟨R, 68, none⟩ = some (.slice va es.length vc) := c68
  have d69 : (w2.drewN nq).cell? ⟨R, 69, none⟩ = some (.map hm) := c69
  have j68 : (w2.drewN nq).frozen? ⟨R, 68, none⟩ = false := f68
  have j69 : (w2.drewN nq).frozen? ⟨R, 69, none⟩ = false := f69
  have hR3 : R < (w2.drewN nq).heap.size := hR2
  have HA3 : Hid (AIs (w2.drewN nq) R B C es va vc hm) := HA2.out.below (below_drewN (Below.refl _ _) nq) hR2
  have Hfr3 : Hid (Fr R (fun o => o = 68 ∨ o = 69) (fun k => sb va = some k ∨ hm = some k) w (w2.drewN nq)) := ⟨Hfr.out.os, Hfr.out.tape, Hfr.out.output, Hfr.out.size, Hfr.out.block, Hfr.out.cell, Hfr.out.frozen⟩
  have Hne3 : Hid (∀ m N (D : DataW Unit), (w2.drewN nq).ownsMap Yba.prog 170 (plainElem Yba.prog 3) m N D → m ≠ R) := Hne
  have k20 : (w2.drewN nq).cell? ⟨w1.heap.size, 0, none⟩ = some (.int .u64 (t : Int)) := h20
  have k21 : (w2.drewN nq).cell? ⟨w1.heap.size, 1, none⟩ = some (.bool true) := h21
  have k22 : (w2.drewN nq).cell? ⟨w1.heap.size, 2, none⟩ = some (.int .u64 (oo : Int)) := h22
  have k23 : (w2.drewN nq).cell? ⟨w1.heap.size, 3, none⟩ = some (.int .u64 (rr : Int)) := h23
  have ks : w1.heap.size < (w2.drewN nq).heap.size := hs2
  clear c68 c69 f68 f69 hR2 HA2 Hfr Hne h20 h21 h22 h23 hrun hs2 Hb2
  generalize w2.drewN nq = w3 at *
  go_upto_if 56 with fail
  go_cut [] (fun wx => ∃ m N, ∃ D : DataW Unit, wx.cell? ⟨R, 69, none⟩ = some (.map (some m)) ∧ wx.cell? ⟨R, 68, none⟩ = some (.slice va es.length vc) ∧ Hid (Mid w R B C es va vc hm wx m N D) ∧ Hid (∀ o v, w3.cell? ⟨w1.heap.size, o, none⟩ = some v → wx.cell? ⟨w1.heap.size, o, none⟩ = some v))
  case first =>
    rcases HA3.out.held with rfl | ⟨m, N, D, rfl, hD, hN, hall⟩
    · go_wp2
      go_meet
      case rel =>
        obtain ⟨q1, q2, q3⟩ := fresh_map hR hB HA3.out Hfr3.out
        refine ⟨_, 0, .map [], q1, q2, q3, fun o v hv => ?_⟩
        refine (World.cell?_alloc_lt _ _ _ ?_).trans ((World.cell?_setCell_other _ _ _ _ (by intro he; injection he; have := Hsz1.out; omega)).trans hv)
        show w1.heap.size < _
        simp
        exact ks
    · have Q1 : Hid (Mid w R B C es va vc (some m) w3 m N D) := ⟨HA3.out.own, hD, hN, hall, Hne3.out m N D hD, .inl rfl, Hfr3.out⟩
      clear hall hD
      go_wp2
      go_meet
      case rel => exact ⟨m, N, D, d69, d68, Q1, fun o v hv => hv⟩
  case rest =>
    clear d68 d69 j68 j69 HA3 Hfr3 Hne3
    obtain ⟨m, N, D, c69, c68, hM, hK⟩ := hcut
    obtain ⟨-, -, -, -, hmR, hml, -⟩ := hM.out
    have Hml : Hid _ := hml
    have hfr2 := hM.out.2.2.2.2.2.2
    have hsz := hfr2.size
    have hO := hM.out.1
    have hD := hM.out.2.1
    obtain ⟨w7, hrun7, hown7, hturn7⟩ := hD.drew.store (e := 3) law170 Yba.underlying59 (by have := hM.out.2.2.1; unfold maxLen; omega) Hkey.out (plainElem_int (a := (es.length : Int)) Yba.underlying3 (WalkArith.wf_i64 (by omega)))
    have Hvm : Hid (∀ (W : World) (E : DataW Unit) (N' : Nat), W.ownsRow B 81 2 (.slice va es.length vc) es.length (rowE es) → W.ownsMap Yba.prog 170 (plainElem Yba.prog 3) m N' E → sb va ≠ some m) := by
      intro W E N' hW hE e
      obtain ⟨g, cap, cur, hv, -, hh, -⟩ := (hW.2.resolve_left (fun h => by have h' := h.1; simp at h'; rw [h'.1] at e; cases e))
      cases hv
      cases e
      obtain ⟨es', clock, hh', -⟩ := hE
      rw [hh] at hh'
      cases hh'
    have F7 : Hid (Fr R (fun o => o = 68 ∨ o = 69) (fun k => sb va = some k ∨ hm = some k) w w7) := hfr2.drew.turned hturn7 hRw hmR (hml.imp .inr id)
    have k1 : Fr R (fun _ => False) (fun k => k = m) wc w7 := (Fr.refl R _ _ wc).drew.turned hturn7 (Nat.lt_of_lt_of_le hRw hsz) hmR (.inl rfl)
    have e68 : w7.cell? ⟨R, 68, none⟩ = some (.slice va es.length vc) := (k1.cell 68 id).trans c68
    have e69 : Hid (w7.cell? ⟨R, 69, none⟩ = some (.map (some m))) := (k1.cell 69 id).trans c69
    have g68 : w7.frozen? ⟨R, 68, none⟩ = false := (F7.out.frozen 68).trans (Hf.out 68)
    have hO7 : Hid (w7.ownsRow B 81 2 (.slice va es.length vc) es.length (rowE es)) := k1.ownsRow hO (fun g hg => ⟨by have := own_ge hO g hg; omega, fun e => Hvm.out wc D N hO hD (by rw [sb_own] at hg; rw [hg, e])⟩)
    have hD7 : Hid (w7.ownsMap Yba.prog 170 (plainElem Yba.prog 3) m (N + 1) (D.put kk (.lit (.int .i64 (es.length : Int)))) ∧ N + 1 ≤ es.length + 1 ∧ ∀ c', c + 1 ≤ c' → Good c' → has (D.put kk (.lit (.int .i64 (es.length : Int)))) (hk c') = false) := ⟨hown7, Nat.succ_le_succ hM.out.2.2.1, Hst.out D hM.out.2.2.2.1 _⟩
    have hR7 : R < w7.heap.size := Nat.lt_of_lt_of_le hRw F7.out.size
    have hB7 : B ≤ w7.heap.size := Nat.le_trans hB F7.out.size
    have hs7 := F7.out.size
    have h20' := hK.out 0 _ k20
    have h21' := hK.out 1 _ k21
    have h22' := hK.out 2 _ k22
    have h23' := hK.out 3 _ k23
    clear hturn7 k1 hown7 hml hO hD hfr2 k20 k21 k22 k23
    go_wp2
    go_region
    go_wp2_with (at_builtin; refine wpList_append_lies _ rfl _ _ 55 rfl B 81 i0 (.agg #[.int .u64 0, .nilIface]) 2 24 Yba.underlying55 hi hz0 hz1 hz2 rfl (by decide) (.slice va es.length vc) es.length (rowE es) rfl (below_ownsRow ((Below.refl _ _).alloc (Nat.le_refl _) _) hO7.out) ⟨w7.heap.size, 0, none⟩ 1 1 [.int .u64 (t : Int), .iface 71 x] rfl rfl (two_cells w7 _ _ 81) ?b1 (by decide) ?b2 ?b3 ?b4 (w7.heap.size + 1) ?b5 ?_)
    case b1 => intro u hu; simp at hu; rcases hu with rfl | rfl <;> rfl
    case b2 => unfold maxLen; omega
    case b3 => omega
    case b4 => simp; omega
    case b5 => simp
    intro g cap w8 hown8 hgrow8 hor hlt
    rw [sb_own] at hgrow8 hor
    have k8 : Fr R (fun _ => False) (fun k => sb va = some k) w7 w8 := ((Fr.refl R _ _ w7).alloc hR7 _).grown hgrow8 hR7 (fun i e => ⟨by have := own_ge hO7.out i (by rw [sb_own]; exact e); omega, .inl e⟩)
    have F8 : Hid (Fr R (fun o => o = 68 ∨ o = 69) (fun k => sb va = some k ∨ hm = some k) w w8) := F7.out.next k8 (fun _ h => h.elim) (fun i h => .inl (.inl h))
    have e68' : w8.cell? ⟨R, 68, none⟩ = some (.slice va es.length vc) := (k8.cell 68 id).trans e68
    have e69' : Hid (w8.cell? ⟨R, 69, none⟩ = some (.map (some m))) := (k8.cell 69 id).trans e69.out
    have g68' : w8.frozen? ⟨R, 68, none⟩ = false := (k8.frozen 68).trans g68
    have hO8 : Hid _ := hown8
    have hgR : B ≤ g := own_ge hown8 g rfl
    have hD8 : Hid (w8.ownsMap Yba.prog 170 (plainElem Yba.prog 3) m (N + 1) (D.put kk (.lit (.int .i64 (es.length : Int))))) := k8.ownsMap hD7.out.1 hmR (fun e => Hvm.out w7 _ _ hO7.out hD7.out.1 e)
    have Hor : Hid _ := hor
    clear hown8 hgrow8 hor k8 e68 g68
    go_wp2
    go_end0
    refine ⟨rfl, some ⟨g, 0, none⟩, cap, some m, ⟨by simpa using csame e68', ?_, ?_, .inr ⟨m, N + 1, _, rfl, hD8.out.setCell hmR _, ?_⟩⟩, ?_, ?_, ?_⟩
    · exact (World.cell?_setCell_other _ _ _ _ (by intro he; injection he with _ he; exact absurd he (by decide))).trans e69'.out
    · rw [rowE_snoc, List.length_append]
      exact ownsRow_setCell_below hO8.out hR _
    · rw [List.length_append]
      exact hD7.out.2
    · rcases Hor.out with h | h
      · exact .inl h.symm
      · exact .inr (fun g' e => by have q : g = g' := Option.some.inj e; omega)
    · rcases Hml.out with h | h
      · exact .inl h.symm
      · exact .inr (fun g' e => by cases e; exact h)
    · exact F8.out.setCell 68 (.inl rfl) _
end Go.Proofs.Ybulkauni.lawS2296ATells
