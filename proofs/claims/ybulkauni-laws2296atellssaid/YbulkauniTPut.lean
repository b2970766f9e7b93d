import Derived.Test.YbulkauniTFr
namespace Go.Proofs.Ybulkauni.lawS2296ATells
open Go.ChangeShapes Go.WideShapes Go.ChangeAt Go.RowKit Go.Maps
open Go.Proofs.Ybulkauni.lawS2296CSendTaken (RowIs clone_any below_drewN bcell)
/-- The envelopes' cells. -/
def rowE (es : List (Nat × Value)) : List Value := es.flatMap fun e => [.int .u64 (e.1 : Int), e.2]
theorem rowE_snoc (es : List (Nat × Value)) (t : Nat) (v : Value) : rowE (es ++ [(t, v)]) = rowE es ++ [.int .u64 (t : Int), v] := by simp [rowE]
theorem rowE_at (es : List (Nat × Value)) (i : Nat) (h : i < es.length) : (rowE es)[2 * i]? = some (.int .u64 ((es.getD i (0, .nilIface)).1 : Int)) ∧ (rowE es)[2 * i + 1]? = some (es.getD i (0, .nilIface)).2 := by
  induction es generalizing i with
  | nil => simp at h
  | cons e r ih =>
    cases i with
    | zero => simp [rowE]
    | succ j =>
      have := ih j (by simpa using h)
      simp only [rowE, List.flatMap_cons] at this ⊢
      rw [show 2 * (j + 1) = (2 * j) + 1 + 1 by omega]
      simpa [List.getD_cons_succ] using this
theorem rowE_one {es : List (Nat × Value)} (h : ∀ e ∈ es, e.2.oneCell' = true) : ∀ u ∈ rowE es, u.oneCell' = true := by
  intro u hu
  simp only [rowE, List.mem_flatMap] at hu
  obtain ⟨e, he, hu⟩ := hu
  simp at hu
  rcases hu with rfl | rfl
  · rfl
  · exact h e he
theorem two_cells (w : World) (x y : Value) (t : TypeId) : ∀ j u, [x, y][j]? = some u → (w.alloc (.cells #[x, y] t)).cell? ((⟨w.heap.size, 0, none⟩ : Addr).add j) = some u := by
  intro j u h
  match j, h with
  | 0, h => simp at h; subst h; exact (by go_simp)
  | 1, h => simp at h; subst h; exact (by go_simp)
def IsPm (r1 r2 : Int) (v : Value) : Prop := ∃ (o run : Int) (pa : Option Addr) (np pc : Nat) (qa : Option Addr) (nr qc : Nat), v = pm r1 r2 o run (.slice pa np pc) (.slice qa nr qc) ∧ nr ≤ 1000
/-- The last map names places among n. -/
def LastOk (w : World) (lm : Option Nat) (n : Nat) : Prop :=
  lm = none ∨ ∃ m N, ∃ D : DataW Unit, lm = some m ∧ w.ownsMap Yba.prog 22 (plainElem Yba.prog 3) m N D ∧ N ≤ n ∧ ∀ t : Nat, has D (.int .u64 (t : Int)) = true → ∃ i : Nat, i < n ∧ ∀ z, D.atKey (.int .u64 (t : Int)) z = .lit (.int .i64 (i : Int))
theorem last_step {D : DataW Unit} (hD : IsMap D) {n t : Nat} (h : ∀ t : Nat, has D (.int .u64 (t : Int)) = true → ∃ i : Nat, i < n ∧ ∀ z, D.atKey (.int .u64 (t : Int)) z = .lit (.int .i64 (i : Int))) :
    ∀ t' : Nat, has (D.put (.int .u64 (t : Int)) (.lit (.int .i64 (n : Int)))) (.int .u64 (t' : Int)) = true → ∃ i : Nat, i < n + 1 ∧ ∀ z, (D.put (.int .u64 (t : Int)) (.lit (.int .i64 (n : Int)))).atKey (.int .u64 (t' : Int)) z = .lit (.int .i64 (i : Int)) := by
  intro t' ht'
  by_cases e : t' = t
  · subst e
    exact ⟨n, by omega, fun z => atKey_put_same hD (by trivial) _ z⟩
  · have hne : Lit.int .u64 (t' : Int) ≠ Lit.int .u64 (t : Int) := by intro q; injection q with _ q; omega
    rw [has_put_other hne] at ht'
    obtain ⟨i, hi, hz⟩ := h t' ht'
    exact ⟨i, by omega, fun z => by rw [atKey_put_other hne]; exact hz z⟩
theorem csame {w : World} {L o : Nat} {v u : Value} (h : w.cell? ⟨L, o, none⟩ = some u) : (w.setCell ⟨L, o, none⟩ v).cell? ⟨L, o, none⟩ = some v := World.cell?_setCell_same _ _ _ h
theorem below_ownsMap {w w' : World} (h : Below w.heap.size w w') {H : Type} {k : TypeId} {Rd : Value → Option (DataW H × List MemPlace)} {b n : Nat} {D : DataW H} (ho : w.ownsMap Yba.prog k Rd b n D) : w'.ownsMap Yba.prog k Rd b n D := by
  obtain ⟨es, clock, hh, r⟩ := ho
  exact ⟨es, clock, (h.block b (Array.getElem?_eq_some_iff.1 hh).1).trans hh, r⟩
theorem below_ownsRow {w w' : World} (h : Below w.heap.size w w') {base e size n : Nat} {v : Value} {xs : List Value} (ho : w.ownsRow base e size v n xs) : w'.ownsRow base e size v n xs := by
  obtain ⟨h1, h2⟩ := ho
  refine ⟨h1, ?_⟩
  rcases h2 with h2 | ⟨g, cap, cur, hv, hg, hh, r⟩
  · exact Or.inl h2
  · exact Or.inr ⟨g, cap, cur, hv, hg, (h.block g (Array.getElem?_eq_some_iff.1 hh).1).trans hh, r⟩
theorem own_ge {w : World} {base e size n : Nat} {v : Value} {xs : List Value} (ho : w.ownsRow base e size v n xs) : ∀ g, v.ownBlock = some g → base ≤ g := by
  rcases ho.2 with ⟨rfl, -⟩ | ⟨g, cap, cur, rfl, hg, -⟩
  · intro g h; cases h
  · intro g' h; cases h; exact hg
theorem map_ne {w : World} {R o m N : Nat} {v : Value} {H : Type} {k : TypeId} {Rd : Value → Option (DataW H × List MemPlace)} {D : DataW H} (hc : w.cell? ⟨R, o, none⟩ = some v) (hm : w.ownsMap Yba.prog k Rd m N D) : m ≠ R := by
  rintro rfl
  obtain ⟨es, clock, hh, _⟩ := hm
  simp [World.cell?, hh] at hc
set_option maxRecDepth 100000 in
set_option maxHeartbeats 2000000 in
theorem put_any (R B t : Nat) (va : Option Addr) (vc : Nat) (lm : Option Nat) (es : List (Nat × Value)) (r1 r2 o run : Int) (pa : Option Addr) (np pc : Nat) (qa : Option Addr) (nr qc : Nat) (w : World)
    (hR : R < B) (hB : B ≤ w.heap.size) (ht : t < 2000) (h0 : 0 < nr) (h1 : nr ≤ 1000) (hlen : es.length ≤ 4096)
    (hf : ∀ o, w.frozen? ⟨R, o, none⟩ = false) (c70 : w.cell? ⟨R, 70, none⟩ = some (.slice va es.length vc)) (c71 : w.cell? ⟨R, 71, none⟩ = some (.map lm))
    (hown : w.ownsRow B 81 2 (.slice va es.length vc) es.length (rowE es)) (hlast : LastOk w lm es.length) (hpm : ∀ e ∈ es, IsPm r1 r2 e.2) :
    Calls Yba.prog 64 #[.pointer (some ⟨R, 70, none⟩), .int .u64 (t : Int), pm r1 r2 o run (.slice pa np pc) (.slice qa nr qc)] w fun e w' => e = .returned (.tuple #[]) ∧ ∃ va' vc' lm', w'.cell? ⟨R, 70, none⟩ = some (.slice va' (es.length + 1) vc') ∧ w'.cell? ⟨R, 71, none⟩ = some (.map lm') ∧
      w'.ownsRow B 81 2 (.slice va' (es.length + 1) vc') (es.length + 1) (rowE (es ++ [(t, pm r1 r2 o run (.slice pa np pc) (.slice qa nr qc))])) ∧ LastOk w' lm' (es.length + 1) ∧
      ((Value.slice va' (es.length + 1) vc').ownBlock = (Value.slice va es.length vc).ownBlock ∨ ∀ g, (Value.slice va' (es.length + 1) vc').ownBlock = some g → w.heap.size ≤ g) ∧ (lm' = lm ∨ ∀ g, lm' = some g → w.heap.size ≤ g) ∧
      Fr R (fun o => o = 70 ∨ o = 71) (fun k => (Value.slice va es.length vc).ownBlock = some k ∨ lm = some k) w w' := by
  obtain ⟨i0, hi, hz0, hz1, hz2⟩ := info_parts Yba.info81
  have f71 := hf 71
  have f70 := hf 70
  have Hf : Hid _ := hf
  have Ho : Hid _ := hown
  have Hp : Hid _ := hpm
  clear hf hown hpm
  have hRw : R < w.heap.size := Nat.lt_of_lt_of_le hR hB
  obtain ⟨x, hmsg⟩ : ∃ x, pm r1 r2 o run (.slice pa np pc) (.slice qa nr qc) = .iface 71 x := ⟨_, rfl⟩
  rw [hmsg]
  have Hm : Hid _ := hmsg
  clear hmsg
  obtain ⟨cv, hb, hrun, hin⟩ : ∃ (cv : Int) (hb : Bool), (Instr.lookup 49 (.map lm) (.int .u64 (t : Int)) true).run Yba.prog w = .ok (.tuple #[.int .i64 cv, .bool hb]) w ∧ (hb = true → ∃ i : Nat, i < es.length ∧ cv = (i : Int)) := by
    rcases hlast with rfl | ⟨m, N, D, rfl, hD, hN, hall⟩
    · exact ⟨0, false, look_nil true law22 Yba.underlying49 (zero3 w) (keyOf_int_mk Yba.underlying22 (wf64 t ht)), fun h => by cases h⟩
    · obtain ⟨v, ps, hrun, hv⟩ := hD.look_ok law22 Yba.underlying49 (zero3 w) (plainElem_int (a := 0) Yba.underlying3 (by decide)) (keyOf_int_mk Yba.underlying22 (wf64 t ht))
      obtain ⟨cv, rfl, hcv, -⟩ := plainElem_int_inv Yba.underlying3 hv
      refine ⟨cv, _, hrun, fun h => ?_⟩
      obtain ⟨i, hi, hz⟩ := hall t h
      rw [hz] at hcv
      simp at hcv
      exact ⟨i, hi, hcv.1.symm⟩
  have Hne : Hid (∀ m N (D : DataW Unit), w.ownsMap Yba.prog 22 (plainElem Yba.prog 3) m N D → m ≠ R) := fun m N D h => map_ne c71 h
  have Hin : Hid _ := hin
  have HL : Hid _ := hlast
  clear hin hlast
  go_enter Yba.func64, Yba.ntmps64
  go_upto_if 19 with fail
  go_cut [] (fun wx => Below w.heap.size w wx)
  case first =>
    cases hb
    · go_wp2
      go_meet
      case rel => exact Below.refl _ _
    · obtain ⟨i, hi', rfl⟩ := Hin.out rfl
      obtain ⟨o2, n2, pa2, np2, pc2, qa2, nr2, qc2, hpm2, hnr2⟩ := Hp.out (es.getD i (0, .nilIface)) (by simp [List.getD_eq_getElem?_getD, hi'])
      rcases Ho.out.2 with ⟨-, h00⟩ | ⟨g, cap', cur, hv, hbg, hh, h1, h2, h3, h4⟩
      · omega
      cases hv
      have hg1 : g < w.heap.size := (Array.getElem?_eq_some_iff.1 hh).1
      have hcell : w.cell? ⟨g, i * 2 + 1, none⟩ = some (es.getD i (0, .nilIface)).2 := by
        have := (rowE_at es i hi').2
        rw [← h4, List.getElem?_take] at this
        rw [if_pos (by omega)] at this
        rw [show i * 2 + 1 = 2 * i + 1 by omega]
        simpa [World.cell?, hh] using this
      rw [hpm2] at hcell
      have Hc : Hid _ := merge_no r1 r2 o2 n2 o run pa2 qa2 pa qa np2 pc2 nr2 qc2 np pc nr qc h0 hnr2 (by assumption) w
      rw [Hm.out] at Hc
      generalize pm r1 r2 o2 n2 (.slice pa2 np2 pc2) (.slice qa2 nr2 qc2) = msg2 at hcell Hc
      clear hpm2 hh h1 h2 h3 h4
      go_wp2_with fail
      refine Calls.mono Hc.out ?_
      rintro e w1 ⟨rfl, hb1⟩
      go_wp2
      go_meet
      case rel => exact hb1
  case rest =>
    have hfr : Fr R (fun o => o = 70 ∨ o = 71) (fun k => (Value.slice va es.length vc).ownBlock = some k ∨ lm = some k) w wc := (Fr.refl _ _ _ w).below hcut hRw
    have hRc : R < wc.heap.size := Nat.lt_of_lt_of_le hRw hcut.size
    have c70' := (hcut.cell (p := ⟨R, 70, none⟩) hRw).trans c70
    have c71' := (hcut.cell (p := ⟨R, 71, none⟩) hRw).trans c71
    have f70' := (hcut.frozen (p := ⟨R, 70, none⟩) hRw).trans f70
    have f71' := (hcut.frozen (p := ⟨R, 71, none⟩) hRw).trans f71
    have Hfr : Hid _ := hfr
    have HO : Hid _ := below_ownsRow hcut Ho.out
    clear c70 c71 f70 f71 hrun hfr
    have hq := fun (wx : World) (r : Option Nat) => run_eql_map_nil (P := Yba.prog) wx 49 22 3 r Yba.underlying49
    have hmm := @run_makeMap Yba.prog
    go_upto_if 46 with fail
    go_cut [] (fun wx => ∃ m N, ∃ D : DataW Unit, wx.cell? ⟨R, 71, none⟩ = some (.map (some m)) ∧ wx.cell? ⟨R, 70, none⟩ = some (.slice va es.length vc) ∧ Hid (wx.ownsRow B 81 2 (.slice va es.length vc) es.length (rowE es)) ∧ Hid (wx.ownsMap Yba.prog 22 (plainElem Yba.prog 3) m N D ∧ N ≤ es.length ∧ ∀ t : Nat, has D (.int .u64 (t : Int)) = true → ∃ i : Nat, i < es.length ∧ ∀ z, D.atKey (.int .u64 (t : Int)) z = .lit (.int .i64 (i : Int))) ∧ (m ≠ R ∧ (lm = some m ∨ w.heap.size ≤ m)) ∧ Hid (Fr R (fun o => o = 70 ∨ o = 71) (fun k => (Value.slice va es.length vc).ownBlock = some k ∨ lm = some k) w wx))
    case first =>
      have hs := hcut.size
      rcases HL.out with rfl | ⟨m, N, D, rfl, hD, hN, hall⟩
      · have hRs : R < (wc.setCell ⟨R, 71, none⟩ (.map (some wc.heap.size))).heap.size := by simpa using hRc
        have q1 : ((wc.setCell ⟨R, 71, none⟩ (.map (some wc.heap.size))).alloc (.map #[] 0)).cell? ⟨R, 71, none⟩ = some (.map (some wc.heap.size)) := (World.cell?_alloc_lt _ _ _ hRs).trans (csame c71')
        have q2 : ((wc.setCell ⟨R, 71, none⟩ (.map (some wc.heap.size))).alloc (.map #[] 0)).cell? ⟨R, 70, none⟩ = some (.slice va es.length vc) := (World.cell?_alloc_lt _ _ _ hRs).trans ((World.cell?_setCell_other _ _ _ _ (by intro he; injection he with _ he; exact absurd he (by decide))).trans c70')
        have q3 : Hid (((wc.setCell ⟨R, 71, none⟩ (.map (some wc.heap.size))).alloc (.map #[] 0)).ownsMap Yba.prog 22 (plainElem Yba.prog 3) wc.heap.size 0 (.map [] : DataW Unit)) := by
          have := World.ownsMap_made (H := Unit) (wc.setCell ⟨R, 71, none⟩ (.map (some wc.heap.size))) Yba.prog 22 (plainElem Yba.prog 3)
          rw [show (wc.setCell ⟨R, 71, none⟩ (.map (some wc.heap.size))).heap.size = wc.heap.size by simp] at this
          exact this
        have q4 : Hid (Fr R (fun o => o = 70 ∨ o = 71) (fun k => (Value.slice va es.length vc).ownBlock = some k ∨ (none : Option Nat) = some k) w ((wc.setCell ⟨R, 71, none⟩ (.map (some wc.heap.size))).alloc (.map #[] 0))) := (Hfr.out.setCell 71 (.inr rfl) _).alloc hRw _
        have Q1 : Hid _ := q1
        have Q2 : Hid _ := q2
        have Q5 : Hid (((wc.setCell ⟨R, 71, none⟩ (.map (some wc.heap.size))).alloc (.map #[] 0)).ownsRow B 81 2 (.slice va es.length vc) es.length (rowE es)) := below_ownsRow ((Below.refl _ _).alloc (Nat.le_refl _) _) (ownsRow_setCell_below HO.out hR _)
        clear q1 q2
        go_wp2
        go_meet
        case rel => exact ⟨wc.heap.size, 0, .map [], Q1.out, Q2.out, Q5, ⟨q3.out, Nat.zero_le _, fun t h => by cases h⟩, ⟨by omega, .inr hs⟩, q4⟩
      · have Q1 : Hid (wc.ownsMap Yba.prog 22 (plainElem Yba.prog 3) m N D ∧ N ≤ es.length ∧ _) := ⟨below_ownsMap hcut hD, hN, hall⟩
        have hmR := Hne.out m N D hD
        clear hall hD
        go_wp2
        go_meet
        case rel => exact ⟨m, N, D, c71', c70', HO, Q1, ⟨hmR, .inl rfl⟩, Hfr⟩
    case rest =>
      clear c70' c71' f70' f71' Hfr HO hRc
      obtain ⟨m, N, D, c71, c70, hO, hD, ⟨hmR, hml⟩, hfr2⟩ := hcut
      have hsz := hfr2.out.size
      obtain ⟨w7, hrun7, hown7, hturn7⟩ := hD.out.1.drew.store (e := 3) law22 Yba.underlying49 (by have := hD.out.2.1; unfold maxLen; omega) (keyOf_int_mk Yba.underlying22 (wf64 t ht)) (plainElem_int (a := (es.length : Int)) Yba.underlying3 (WalkArith.wf_i64 (by omega)))
      have hvm : (Value.slice va es.length vc).ownBlock ≠ some m := by
        intro e
        obtain ⟨g, cap, cur, hv, -, hh, -⟩ := (hO.out.2.resolve_left (fun h => by rw [h.1] at e; cases e))
        cases hv
        cases e
        obtain ⟨es', clock, hh', -⟩ := hD.out.1
        rw [hh] at hh'
        cases hh'
      have F7 : Hid (Fr R (fun o => o = 70 ∨ o = 71) (fun k => (Value.slice va es.length vc).ownBlock = some k ∨ lm = some k) w w7) := hfr2.out.drew.turned hturn7 hRw hmR (hml.imp .inr id)
      have k1 : Fr R (fun _ => False) (fun k => k = m) wc w7 := (Fr.refl R _ _ wc).drew.turned hturn7 (Nat.lt_of_lt_of_le hRw hsz) hmR (.inl rfl)
      have e70 : w7.cell? ⟨R, 70, none⟩ = some (.slice va es.length vc) := (k1.cell 70 id).trans c70
      have e71 : Hid (w7.cell? ⟨R, 71, none⟩ = some (.map (some m))) := (k1.cell 71 id).trans c71
      have g70 : w7.frozen? ⟨R, 70, none⟩ = false := (F7.out.frozen 70).trans (Hf.out 70)
      have hO7 : Hid (w7.ownsRow B 81 2 (.slice va es.length vc) es.length (rowE es)) := k1.ownsRow hO.out (fun g hg => ⟨by have := own_ge hO.out g hg; omega, fun e => hvm (e ▸ hg)⟩)
      have hD7 : Hid (LastOk w7 (some m) (es.length + 1)) := .inr ⟨m, N + 1, _, rfl, hown7, by have := hD.out.2.1; omega, last_step hD.out.1.isMap hD.out.2.2⟩
      have hR7 : R < w7.heap.size := Nat.lt_of_lt_of_le hRw F7.out.size
      have hB7 : B ≤ w7.heap.size := Nat.le_trans hB F7.out.size
      have hs7 := F7.out.size
      have Hml : Hid _ := hml
      clear hturn7 k1 hown7 hml hvm
      go_wp2
      go_region
      go_wp2_with (at_builtin; refine wpList_append_lies _ rfl _ _ 55 rfl B 81 i0 (.agg #[.int .u64 0, .nilIface]) 2 24 Yba.underlying55 hi hz0 hz1 hz2 rfl (by decide) (.slice va es.length vc) es.length (rowE es) rfl (below_ownsRow ((Below.refl _ _).alloc (Nat.le_refl _) _) hO7.out) ⟨w7.heap.size, 0, none⟩ 1 1 [.int .u64 (t : Int), .iface 71 x] rfl rfl (two_cells w7 _ _ 81) ?b1 (by decide) ?b2 ?b3 ?b4 (w7.heap.size + 1) ?b5 ?_)
      case b1 => intro u hu; simp at hu; rcases hu with rfl | rfl <;> rfl
      case b2 => unfold maxLen; omega
      case b3 => omega
      case b4 => simp; omega
      case b5 => simp
      intro g cap w8 hown8 hgrow8 hor hlt
      have k8 : Fr R (fun _ => False) (fun k => (Value.slice va es.length vc).ownBlock = some k) w7 w8 := ((Fr.refl R _ _ w7).alloc hR7 _).grown hgrow8 hR7 (fun i e => ⟨by have := own_ge hO7.out i e; omega, .inl e⟩)
      have F8 : Hid (Fr R (fun o => o = 70 ∨ o = 71) (fun k => (Value.slice va es.length vc).ownBlock = some k ∨ lm = some k) w w8) := F7.out.next k8 (fun _ h => h.elim) (fun i h => .inl (.inl h))
      have e70' : w8.cell? ⟨R, 70, none⟩ = some (.slice va es.length vc) := (k8.cell 70 id).trans e70
      have e71' : Hid (w8.cell? ⟨R, 71, none⟩ = some (.map (some m))) := (k8.cell 71 id).trans e71.out
      have g70' : w8.frozen? ⟨R, 70, none⟩ = false := (k8.frozen 70).trans g70
      have hO8 : Hid _ := hown8
      have hgR : B ≤ g := own_ge hown8 g rfl
      have hD8 : Hid (LastOk w8 (some m) (es.length + 1)) := by
        rcases hD7.out with h | ⟨m', N', D', h, h2, h3⟩
        · cases h
        · cases h
          exact .inr ⟨m, N', D', rfl, k8.ownsMap h2 hmR (fun e => by
            obtain ⟨g, cap, cur, hv, -, hh, -⟩ := (hO7.out.2.resolve_left (fun h => by rw [h.1] at e; cases e))
            rw [hv] at e
            cases e
            obtain ⟨es', clock, hh', -⟩ := h2
            rw [hh] at hh'
            cases hh'), h3⟩
      have Hor : Hid _ := hor
      clear hown8 hgrow8 hor k8 e70 g70
      go_wp2
      go_end0
      refine ⟨rfl, some ⟨g, 0, none⟩, cap, some m, csame e70', ?_, ?_, ?_, ?_, ?_, ?_⟩
      · exact (World.cell?_setCell_other _ _ _ _ (by intro he; injection he with _ he; exact absurd he (by decide))).trans e71'.out
      · rw [rowE_snoc]
        exact ownsRow_setCell_below hO8.out hR _
      · rcases hD8.out with h | ⟨m', N', D', h, h2, h3⟩
        · cases h
        · cases h
          exact .inr ⟨m, N', D', rfl, h2.setCell hmR _, h3⟩
      · rcases Hor.out with h | h
        · exact .inl h.symm
        · exact .inr (fun g' e => by have q : g = g' := Option.some.inj e; omega)
      · rcases Hml.out with h | h
        · exact .inl h.symm
        · exact .inr (fun g' e => by cases e; exact h)
      · exact F8.out.setCell 70 (.inl rfl) _
end Go.Proofs.Ybulkauni.lawS2296ATells
