import Derived.Test.YbulkauhkPair

namespace Go.Proofs.Ybulkauhk
open Go.ChangeShapes Go.WideShapes Go.ChangeAt Go.RowKit
open Go.Maps

/-- One step along the cycle. -/
def stepG (use : Bool) (n : Nat) (vis tp : List (Nat × Nat)) (a b : Nat) (st : List Int × Bool) : List Int × Bool :=
  if n ≤ a ∨ n ≤ b then st else if inVis n vis a b then (st.1 ++ [refV use n tp a b], st.2) else (st.1, true)
/-- What is gathered over the cycle's first k steps. -/
def gath (use : Bool) (n : Nat) (vis tp : List (Nat × Nat)) (cl : List Nat) : Nat → List Int × Bool
  | 0 => ([], false)
  | k + 1 => stepG use n vis tp (cl.getD k 0) (cl.getD (k + 1) 0) (gath use n vis tp cl k)
theorem gath_len (use : Bool) (n : Nat) (vis tp : List (Nat × Nat)) (cl : List Nat) : ∀ k, (gath use n vis tp cl k).1.length ≤ k
  | 0 => by simp [gath]
  | k + 1 => by
    have := gath_len use n vis tp cl k
    rw [gath, stepG]
    split
    · omega
    · split
      · simp; omega
      · simp; omega
/-- The search's events. -/
def EvOk (w : World) (s n : Nat) : Prop :=
  s < w.heap.size ∧ ∃ p h a, p < w.heap.size ∧ h < w.heap.size ∧ w.cell? ⟨s, 0, none⟩ = some (.pointer (some ⟨p, 0, none⟩)) ∧ w.cell? ⟨p, 2, none⟩ = some (.pointer (some ⟨h, 0, none⟩)) ∧ w.cell? ⟨h, 0, none⟩ = some (.slice a n n)
/-- The rows of visibility. -/
def VisOk (w : World) (c n : Nat) (vis : List (Nat × Nat)) : Prop :=
  c < w.heap.size ∧ ∃ V W, V < w.heap.size ∧ w.cell? ⟨c, 0, none⟩ = some (.slice (some ⟨V, 0, none⟩) n n) ∧ ∀ b, b < n → ∃ g, g < w.heap.size ∧ w.cell? ⟨V, b, none⟩ = some (.slice (some ⟨g, 0, none⟩) W W) ∧
    ∀ a, a < n → a / 64 < W ∧ ∃ m : Nat, m < 18446744073709551616 ∧ w.cell? ⟨g, a / 64, none⟩ = some (.int .u64 m) ∧ m.testBit (a % 64) = inVis n vis a b
/-- The cycle. -/
def CycOk (w : World) (ca : Option Addr) (cl : List Nat) : Prop :=
  ∀ k, k < cl.length → ∃ b off, ca = some ⟨b, off, none⟩ ∧ b < w.heap.size ∧ w.cell? ⟨b, off + k, none⟩ = some (.int .i64 (cl.getD k 0))
theorem EvOk.below {w w' : World} {s n : Nat} (h : EvOk w s n) (hb : Below w.heap.size w w') : EvOk w' s n := by
  obtain ⟨h0, p, q, a, h1, h2, h3, h4, h5⟩ := h
  have hs := hb.size
  exact ⟨by omega, p, q, a, by omega, by omega, ((bcell hb).1 _ _ h0).trans h3, ((bcell hb).1 _ _ h1).trans h4, ((bcell hb).1 _ _ h2).trans h5⟩
theorem VisOk.below {w w' : World} {c n : Nat} {vis : List (Nat × Nat)} (h : VisOk w c n vis) (hb : Below w.heap.size w w') : VisOk w' c n vis := by
  obtain ⟨h0, V, W, h1, h2, h3⟩ := h
  have hs := hb.size
  refine ⟨by omega, V, W, by omega, ((bcell hb).1 _ _ h0).trans h2, fun b hlt => ?_⟩
  obtain ⟨g, hg, h4, h5⟩ := h3 b hlt
  refine ⟨g, by omega, ((bcell hb).1 _ _ h1).trans h4, fun a ha => ?_⟩
  obtain ⟨h6, m, h7, h8, h9⟩ := h5 a ha
  exact ⟨h6, m, h7, ((bcell hb).1 _ _ hg).trans h8, h9⟩
theorem CycOk.below {w w' : World} {ca : Option Addr} {cl : List Nat} (h : CycOk w ca cl) (hb : Below w.heap.size w w') : CycOk w' ca cl := fun k hk => by
  obtain ⟨b, off, h1, h2, h3⟩ := h k hk
  exact ⟨b, off, h1, Nat.lt_of_lt_of_le h2 hb.size, ((bcell hb).1 _ _ h2).trans h3⟩
theorem wrap_small (k : Nat) (h : k < 5000) : IntKind.i64.wrap (k : Int) = (k : Int) := by
  simp only [IntKind.wrap, IntKind.bits, IntKind.signed]
  simp
  omega
theorem Blame.setWhole {w : World} {y base : Nat} {rs : List Int} {f : Bool} (h : Blame w y base rs f) : Blame (w.setCell ⟨y, 2, none⟩ (.bool true)) y base rs true := by
  obtain ⟨v, hv, hown⟩ := h.own
  refine ⟨h.lt, by simpa using h.le, ⟨v, ?_, ownsRow_setCell_below hown h.lt _⟩, ?_, World.cell?_setCell_same _ _ _ h.c2, fun o => ?_⟩
  · rw [World.cell?_setCell_other _ _ _ _ (by simp)]; exact hv
  · rw [World.cell?_setCell_other _ _ _ _ (by simp)]; exact h.c1
  · rw [World.frozen?_setCell]; exact h.fz o
theorem Blame.drewN {w : World} {y base : Nat} {rs : List Int} {f : Bool} (h : Blame w y base rs f) (q : Nat) : Blame (w.drewN q) y base rs f := by
  obtain ⟨h1, h2, h3, h4, h5, h6⟩ := h
  exact ⟨h1, h2, h3, h4, h5, h6⟩
theorem below_drewN {B : Nat} {a w : World} (h : Below B a w) (q : Nat) : Below B a (w.drewN q) := by
  obtain ⟨h1, h2, h3, h4, h5⟩ := h
  exact ⟨h1, h2, h3, h4, h5⟩
theorem RefOk.drewN {w : World} {c n : Nat} {use : Bool} {tp : List (Nat × Nat)} (h : RefOk w c use n tp) (q : Nat) : RefOk (w.drewN q) c use n tp := h
set_option maxHeartbeats 2000000 in
theorem blame_any (s c y base n : Nat) (ca : Option Addr) (cap : Nat) (use : Bool) (vis tp : List (Nat × Nat)) (cl : List Nat) (w0 w : World) (hn : n < 130) (hlen : cl.length ≤ 1024)
    (hE : EvOk w0 s n) (hV : VisOk w0 c n vis) (hR : RefOk w0 c use n tp) (hC : CycOk w0 ca cl) (hw : Below w0.heap.size w0 w) (hy : w0.heap.size ≤ y) (hB : Blame w y base [] false) :
    Calls Yba.prog 6 #[.pointer (some ⟨s, 0, none⟩), .pointer (some ⟨c, 0, none⟩), .slice ca cl.length cap, .pointer (some ⟨y, 0, none⟩)] w fun e w' =>
      e = .returned (.tuple #[]) ∧ Blame w' y base (gath use n vis tp cl (cl.length - 1)).1 (gath use n vis tp cl (cl.length - 1)).2 ∧ Below y w w' := by
  obtain ⟨N, hN⟩ : ∃ N, N = cl.length := ⟨_, rfl⟩
  rw [← hN] at hlen ⊢
  have HN : Hid _ := hN
  have HV : Hid (VisOk w0 c n vis) := hV
  have HR : Hid (RefOk w0 c use n tp) := hR
  have HC : Hid (CycOk w0 ca cl) := hC
  obtain ⟨e0, p, h, a0, e1, e2, e3, e4, e5⟩ := hE.below hw
  clear hN hV hR hC hE
  go_enter Yba.func6, Yba.ntmps6
  go_wp2
  go_loopw [9] (fun si wr => ∃ k : Nat, (k = 0 ∨ k + 1 ≤ N) ∧ si = .int .i64 ((k : Int) + 1) ∧ Blame wr y base (gath use n vis tp cl k).1 (gath use n vis tp cl k).2 ∧ Below y w wr) (fun si _ => N + 1 - (intOf si).toNat)
  case atStart => exact ⟨0, .inl rfl, rfl, hB, Below.refl _ _⟩
  case round =>
    obtain ⟨k, hk, rfl, hB', hnx⟩ := hrel
    by_cases hlt : k + 1 < N
    · have hb0 : Below w0.heap.size w0 wr := hw.trans (hnx.mono hy)
      obtain ⟨b1, o1, rfl, f1, c1⟩ := HC.out.below hb0 k (by rw [← HN.out]; omega)
      obtain ⟨b2, o2, f2, f3, c2⟩ := HC.out.below hb0 (k + 1) (by rw [← HN.out]; omega)
      cases f2
      have HG : Hid (gath use n vis tp cl (k + 1) = stepG use n vis tp (cl.getD k 0) (cl.getD (k + 1) 0) (gath use n vis tp cl k)) := rfl
      generalize cl.getD k 0 = a at *
      generalize cl.getD (k + 1) 0 = b at *
      have HB : Hid _ := hB'
      clear hB' e0 e1 e2 e3 e4 e5
      have hwk := wrap_small k (by omega)
      have i1 : (k : Int) < (N : Int) := by omega
      have i2 : (k : Int) + 1 < (N : Int) := by omega
      have i3 : 0 ≤ (k : Int) + 1 := by omega
      go_wp2
      go_quiet (fail)
      clear hwk
      by_cases ha : n ≤ a
      · have HG2 : Hid (gath use n vis tp cl (k + 1) = gath use n vis tp cl k) := by show _ = _; rw [HG.out, stepG, if_pos (.inl ha)]
        go_wp2
        go_roundw
        case rel => exact ⟨k + 1, .inr (by omega), by go_num, by rw [HG2.out]; exact HB.out.drewN _, below_drewN hnx _⟩
        case measure => simp [intOf]; omega
      by_cases hb : n ≤ b
      · have HG2 : Hid (gath use n vis tp cl (k + 1) = gath use n vis tp cl k) := by show _ = _; rw [HG.out, stepG, if_pos (.inr hb)]
        go_wp2
        go_roundw
        case rel => exact ⟨k + 1, .inr (by omega), by go_num, by rw [HG2.out]; exact HB.out.drewN _, below_drewN hnx _⟩
        case measure => simp [intOf]; omega
      obtain ⟨v0, V, W, v1, v2, v3⟩ := HV.out.below hb0
      obtain ⟨g, v4, v5, v6⟩ := v3 b (by omega)
      obtain ⟨v7, m, v8, v9, v10⟩ := v6 a (by omega)
      clear v3 v6
      have hR' : RefOk wr c use n tp := HR.out.below hb0 (fun _ h => h)
      have HR' : Hid (RefOk wr c use n tp) := hR'
      have Hbit : Hid (m.testBit (a % 64) = inVis n vis a b) := v10
      clear hR' v10
      cases hin : inVis n vis a b
      · have HG2 : Hid (gath use n vis tp cl (k + 1) = ((gath use n vis tp cl k).1, true)) := by
          show _ = _; rw [HG.out, stepG, if_neg (by omega), if_neg (by rw [hin]; simp)]
        have hbit := Hbit.out
        rw [hin] at hbit
        have Hbit2 : Hid _ := hbit
        clear hbit
        go_wp2_with fail
        refine (has_any g a W m _ v8 (by omega) v7 (by exact v9)).mono ?_
        rintro e w2 ⟨rfl, q, rfl⟩
        rw [Hbit2.out]
        have k1 := HB.out.c2
        have k2 := HB.out.fz 2
        go_wp2_with fail
        refine (all_any y _ _ (by exact k1) (by exact k2)).mono ?_
        rintro e w2 ⟨rfl, rfl⟩
        go_wp2
        go_roundw
        case rel => exact ⟨k + 1, .inr (by omega), by go_num, by rw [HG2.out]; exact (HB.out.drewN _).setWhole, (below_drewN hnx _).setCell (Nat.le_refl _) _⟩
        case measure => simp [intOf]; omega
      · have HG2 : Hid (gath use n vis tp cl (k + 1) = ((gath use n vis tp cl k).1 ++ [refV use n tp a b], (gath use n vis tp cl k).2)) := by
          show _ = _; rw [HG.out, stepG, if_neg (by omega), if_pos hin]
        have hbit := Hbit.out
        rw [hin] at hbit
        have Hbit2 : Hid _ := hbit
        clear hbit
        have hgl := gath_len use n vis tp cl k
        go_wp2_with fail
        refine (has_any g a W m _ v8 (by omega) v7 (by exact v9)).mono ?_
        rintro e w2 ⟨rfl, q, rfl⟩
        rw [Hbit2.out]
        go_wp2_with fail
        refine (pair_any y base c use n a b tp _ _ _ (by omega) hn (by omega) (by omega) (HB.out.drewN _) (HR'.out.drewN _)).mono ?_
        rintro e w2 ⟨rfl, hB2, hb2⟩
        have HB2 : Hid _ := hB2
        clear hB2
        go_wp2
        go_roundw
        case rel => exact ⟨k + 1, .inr (by omega), by go_num, by rw [HG2.out]; exact HB2.out, (below_drewN hnx _).trans hb2⟩
        case measure => simp [intOf]; omega
    · have HB : Hid (Blame wr y base (gath use n vis tp cl (N - 1)).1 (gath use n vis tp cl (N - 1)).2) := by
        have : N - 1 = k := by omega
        rw [this]; exact hB'
      clear hB'
      go_wp2
      go_end0
      exact ⟨rfl, HB.out, hnx⟩
end Go.Proofs.Ybulkauhk
