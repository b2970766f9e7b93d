import Derived.Test.YbulkauniSend
import Derived.Test.YbulkauniTSort
import Derived.Test.YbulkauniTAny
namespace Go.Proofs.Ybulkauni.lawS2296ATells
open Go.ChangeShapes Go.WideShapes Go.ChangeAt Go.RowKit Go.Maps
open Go.Proofs.Ybulkauni.lawS2296CSendTaken (RowIs clone_any below_drewN bcell)
set_option maxRecDepth 100000 in
set_option maxHeartbeats 1000000 in
theorem len_any (L : Nat) (w : World) (h0 : w.cell? ⟨L, 0, none⟩ = some (.int .i64 0)) (h1 : w.cell? ⟨L, 1, none⟩ = some (.slice none 0 0)) :
    Calls Yba.prog 45 #[.pointer (some ⟨L, 0, none⟩)] w fun e w' => e = .returned (.int .i64 0) ∧ ∃ q, w.drewN q = w' := by
  go_enter Yba.func45, Yba.ntmps45
  go_wp2
  go_quiet (fail)
  go_wp2
  go_ret
  exact ⟨rfl, _, rfl⟩
set_option maxRecDepth 100000 in
set_option maxHeartbeats 1000000 in
theorem clip_nil (w : World) : Calls Yba.prog 32 #[.slice none 0 0] w fun e w' => e = .returned (.slice none 0 0) ∧ w = w' := by
  go_enter Yba.func32, Yba.ntmps32
  go_wp2
  go_ret
  exact ⟨rfl, rfl⟩
theorem cs {w : World} {L L' o o' : Nat} {v : Value} (h : L ≠ L' ∨ o ≠ o') : (w.setCell ⟨L', o', none⟩ v).cell? ⟨L, o, none⟩ = w.cell? ⟨L, o, none⟩ :=
  World.cell?_setCell_other _ _ _ _ (by intro he; injection he; omega)
theorem cset {w : World} {L o : Nat} {v u : Value} (h : w.cell? ⟨L, o, none⟩ = some u) : (w.setCell ⟨L, o, none⟩ v).cell? ⟨L, o, none⟩ = some v := World.cell?_setCell_same _ _ _ h
/-- The empty log lies in block L. -/
def LogAt (w : World) (L : Nat) : Prop :=
  L < w.heap.size ∧ w.cell? ⟨L, 0, none⟩ = some (.int .i64 0) ∧ w.cell? ⟨L, 1, none⟩ = some (.slice none 0 0) ∧ w.cell? ⟨L, 2, none⟩ = some (.map none) ∧ w.cell? ⟨L, 3, none⟩ = some (.slice none 0 0) ∧ w.cell? ⟨L, 4, none⟩ = some (.int .i64 0) ∧ w.cell? ⟨L, 5, none⟩ = some (.int .i64 0) ∧ ∀ o, w.frozen? ⟨L, o, none⟩ = false
theorem LogAt.drewN {w : World} {L : Nat} (h : LogAt w L) (q : Nat) : LogAt (w.drewN q) L := h
set_option maxRecDepth 100000 in
set_option maxHeartbeats 1000000 in
theorem skip_nil (L : Nat) (w : World) (h : LogAt w L) :
    Calls Yba.prog 30 #[.pointer (some ⟨L, 0, none⟩), .int .i64 0, .slice none 0 0] w fun e w' => e = .returned (.tuple #[]) ∧ LogAt w' L ∧ Below L w w' := by
  obtain ⟨hL, h0, h1, h2, h3, h4, h5, hf⟩ := h
  have f0 := hf 0
  have f1 := hf 1
  have f5 := hf 5
  have HF : Hid _ := hf
  clear hf
  go_enter Yba.func30, Yba.ntmps30
  go_wp2_with (go_at_call 45; refine (len_any L _ (by simpa using h0) (by simpa using h1)).mono ?_; rintro e w1 ⟨rfl, q, rfl⟩)
  go_loopw [26] (fun si wr => si = .int .i64 0 ∧ ∃ q, w.drewN q = wr) (fun _ _ => 0)
  case atStart => exact ⟨rfl, _, rfl⟩
  case round =>
    obtain ⟨rfl, q, rfl⟩ := hrel
    go_wp2
    go_end0
    refine ⟨rfl, ⟨by simpa using hL, ?_, ?_, ?_, ?_, ?_, ?_, ?_⟩, ?_⟩
    · exact (cs (.inr (by decide))).trans ((cs (.inr (by decide))).trans (cset h0))
    · exact (cs (.inr (by decide))).trans (cset ((cs (.inr (by decide))).trans h1))
    · exact (cs (.inr (by decide))).trans ((cs (.inr (by decide))).trans ((cs (.inr (by decide))).trans h2))
    · exact (cs (.inr (by decide))).trans ((cs (.inr (by decide))).trans ((cs (.inr (by decide))).trans h3))
    · exact (cs (.inr (by decide))).trans ((cs (.inr (by decide))).trans ((cs (.inr (by decide))).trans h4))
    · exact cset ((cs (.inr (by decide))).trans ((cs (.inr (by decide))).trans h5))
    · intro o; exact (World.frozen?_setCell _ _ _ _).trans ((World.frozen?_setCell _ _ _ _).trans ((World.frozen?_setCell _ _ _ _).trans (HF.out o)))
    · have hb : Below L w (w.drewN q) := below_drewN (Below.refl _ _) q
      exact ((hb.setCell (p := ⟨L, 0, none⟩) (Nat.le_refl _) _).setCell (p := ⟨L, 1, none⟩) (Nat.le_refl _) _).setCell (p := ⟨L, 5, none⟩) (Nat.le_refl _) _
set_option maxRecDepth 100000 in
set_option maxHeartbeats 2000000 in
theorem newLog_nil (w : World) : Calls Yba.prog 20 #[.int .i64 0, .slice none 0 0, .slice none 0 0, .int .i64 0] w fun e w' => e = .returned (.agg #[.int .i64 0, .slice none 0 0, .map none, .slice none 0 0, .int .i64 0, .int .i64 0]) ∧ Below w.heap.size w w' := by
  go_enter Yba.func20, Yba.ntmps20
  go_wp2
  go_loopw [9, 26] (fun d si wr => d = .int .i64 (-100000) ∧ si = .int .i64 0 ∧ wr = w.alloc (.cells #[.int .i64 0, .slice none 0 0, .map none, .slice none 0 0, .int .i64 0, .int .i64 0] 39)) (fun _ _ _ => 0)
  case atStart => exact ⟨rfl, rfl, rfl⟩
  case round =>
    obtain ⟨rfl, rfl, rfl⟩ := hrel
    go_wp2_with fail
    refine (skip_nil (w.heap.size + 1) _ ?_).mono ?_
    · refine ⟨by simp, ?_, ?_, ?_, ?_, ?_, ?_, ?_⟩
      · go_simp
      · go_simp
      · go_simp
      · go_simp
      · go_simp
      · go_simp
      · intro o; go_simp
    rintro e w1 ⟨rfl, hLog, hb⟩
    obtain ⟨hL, h0, h1, h2, h3, h4, h5, hf⟩ := hLog
    have hb0 : Below w.heap.size w w1 := (((Below.refl w.heap.size w).alloc (Nat.le_refl _) _).alloc (by simp) _).trans (hb.mono (Nat.le_succ _))
    have hRes : Hid (∀ o, o < 6 → ∃ v, w1.cell? ⟨w.heap.size, o, none⟩ = some v) := fun o ho => by
      refine ⟨#[Value.int .i64 0, .slice none 0 0, .map none, .slice none 0 0, .int .i64 0, .int .i64 0][o]!, (hb.cell (p := ⟨w.heap.size, o, none⟩) (Nat.lt_succ_self _)).trans ?_⟩
      match o, ho with
      | 0, _ => go_simp
      | 1, _ => go_simp
      | 2, _ => go_simp
      | 3, _ => go_simp
      | 4, _ => go_simp
      | 5, _ => go_simp
    have hFr : Hid (∀ o, w1.frozen? ⟨w.heap.size, o, none⟩ = false) := fun o => (hb.frozen (p := ⟨w.heap.size, o, none⟩) (Nat.lt_succ_self _)).trans (by go_simp)
    have HF : Hid _ := hf
    have f1 := hf 1
    have f4 := hf 4
    clear hf hb
    go_wp2
    go_loopw [9, 51] (fun d si wr => d = .int .i64 (-100000) ∧ si = .int .i64 0 ∧ wr = w1) (fun _ _ _ => 0)
    case atStart => exact ⟨rfl, rfl, rfl⟩
    case round =>
      obtain ⟨rfl, rfl, rfl⟩ := hrel
      go_wp2_with (go_at_call 32; refine (clip_nil _).mono ?_; rintro e w2 ⟨rfl, rfl⟩)
      go_loopw [85] (fun si wrr => si = .int .i64 0 ∧ wrr = (wr.setCell ⟨w.heap.size + 1, 1, none⟩ (.slice none 0 0)).setCell ⟨w.heap.size + 1, 4, none⟩ (.int .i64 0)) (fun _ _ => 0)
      case atStart => exact ⟨rfl, rfl⟩
      case round =>
        obtain ⟨rfl, rfl⟩ := hrel
        have c0 : ((wr.setCell ⟨w.heap.size + 1, 1, none⟩ (.slice none 0 0)).setCell ⟨w.heap.size + 1, 4, none⟩ (.int .i64 0)).cell? ⟨w.heap.size + 1, 0, none⟩ = some (.int .i64 0) := (cs (.inr (by decide))).trans ((cs (.inr (by decide))).trans h0)
        have c1 : ((wr.setCell ⟨w.heap.size + 1, 1, none⟩ (.slice none 0 0)).setCell ⟨w.heap.size + 1, 4, none⟩ (.int .i64 0)).cell? ⟨w.heap.size + 1, 1, none⟩ = some (.slice none 0 0) := (cs (.inr (by decide))).trans (cset h1)
        have c2 : ((wr.setCell ⟨w.heap.size + 1, 1, none⟩ (.slice none 0 0)).setCell ⟨w.heap.size + 1, 4, none⟩ (.int .i64 0)).cell? ⟨w.heap.size + 1, 2, none⟩ = some (.map none) := (cs (.inr (by decide))).trans ((cs (.inr (by decide))).trans h2)
        have c3 : ((wr.setCell ⟨w.heap.size + 1, 1, none⟩ (.slice none 0 0)).setCell ⟨w.heap.size + 1, 4, none⟩ (.int .i64 0)).cell? ⟨w.heap.size + 1, 3, none⟩ = some (.slice none 0 0) := (cs (.inr (by decide))).trans ((cs (.inr (by decide))).trans h3)
        have c4 : ((wr.setCell ⟨w.heap.size + 1, 1, none⟩ (.slice none 0 0)).setCell ⟨w.heap.size + 1, 4, none⟩ (.int .i64 0)).cell? ⟨w.heap.size + 1, 4, none⟩ = some (.int .i64 0) := cset ((cs (.inr (by decide))).trans h4)
        have c5 : ((wr.setCell ⟨w.heap.size + 1, 1, none⟩ (.slice none 0 0)).setCell ⟨w.heap.size + 1, 4, none⟩ (.int .i64 0)).cell? ⟨w.heap.size + 1, 5, none⟩ = some (.int .i64 0) := (cs (.inr (by decide))).trans ((cs (.inr (by decide))).trans h5)
        have hr : Hid (∀ o, o < 6 → ∃ v, ((wr.setCell ⟨w.heap.size + 1, 1, none⟩ (.slice none 0 0)).setCell ⟨w.heap.size + 1, 4, none⟩ (.int .i64 0)).cell? ⟨w.heap.size, o, none⟩ = some v) := fun o ho => by
          obtain ⟨v, hv⟩ := hRes.out o ho
          exact ⟨v, (cs (.inl (by omega))).trans ((cs (.inl (by omega))).trans hv)⟩
        have hff : Hid (∀ o, ((wr.setCell ⟨w.heap.size + 1, 1, none⟩ (.slice none 0 0)).setCell ⟨w.heap.size + 1, 4, none⟩ (.int .i64 0)).frozen? ⟨w.heap.size, o, none⟩ = false) := fun o => (World.frozen?_setCell _ _ _ _).trans ((World.frozen?_setCell _ _ _ _).trans (hFr.out o))
        have hb3 : Below w.heap.size w ((wr.setCell ⟨w.heap.size + 1, 1, none⟩ (.slice none 0 0)).setCell ⟨w.heap.size + 1, 4, none⟩ (.int .i64 0)) := (hb0.setCell (p := ⟨w.heap.size + 1, 1, none⟩) (Nat.le_succ _) _).setCell (p := ⟨w.heap.size + 1, 4, none⟩) (Nat.le_succ _) _
        have hs3 : w.heap.size + 1 < ((wr.setCell ⟨w.heap.size + 1, 1, none⟩ (.slice none 0 0)).setCell ⟨w.heap.size + 1, 4, none⟩ (.int .i64 0)).heap.size := by simpa using hL
        generalize (wr.setCell ⟨w.heap.size + 1, 1, none⟩ (.slice none 0 0)).setCell ⟨w.heap.size + 1, 4, none⟩ (.int .i64 0) = w3 at *
        obtain ⟨v0, r0⟩ := hr.out 0 (by decide)
        obtain ⟨v1, r1⟩ := hr.out 1 (by decide)
        obtain ⟨v2, r2⟩ := hr.out 2 (by decide)
        obtain ⟨v3, r3⟩ := hr.out 3 (by decide)
        obtain ⟨v4, r4⟩ := hr.out 4 (by decide)
        obtain ⟨v5, r5⟩ := hr.out 5 (by decide)
        have g0 := hff.out 0
        have g1 := hff.out 1
        have g2 := hff.out 2
        have g3 := hff.out 3
        have g4 := hff.out 4
        have g5 := hff.out 5
        clear h0 h1 h2 h3 h4 h5 f1 f4 hb0
        go_wp2
        have hb4 : Below w.heap.size w ((((((w3.setCell ⟨w.heap.size, 0, none⟩ (.int .i64 0)).setCell ⟨w.heap.size, 1, none⟩ (.slice none 0 0)).setCell ⟨w.heap.size, 2, none⟩ (.map none)).setCell ⟨w.heap.size, 3, none⟩ (.slice none 0 0)).setCell ⟨w.heap.size, 4, none⟩ (.int .i64 0)).setCell ⟨w.heap.size, 5, none⟩ (.int .i64 0)) := (((((hb3.setCell (p := ⟨w.heap.size, 0, none⟩) (Nat.le_refl _) _).setCell (p := ⟨w.heap.size, 1, none⟩) (Nat.le_refl _) _).setCell (p := ⟨w.heap.size, 2, none⟩) (Nat.le_refl _) _).setCell (p := ⟨w.heap.size, 3, none⟩) (Nat.le_refl _) _).setCell (p := ⟨w.heap.size, 4, none⟩) (Nat.le_refl _) _).setCell (p := ⟨w.heap.size, 5, none⟩) (Nat.le_refl _) _
        have q0 : ((((((w3.setCell ⟨w.heap.size, 0, none⟩ (.int .i64 0)).setCell ⟨w.heap.size, 1, none⟩ (.slice none 0 0)).setCell ⟨w.heap.size, 2, none⟩ (.map none)).setCell ⟨w.heap.size, 3, none⟩ (.slice none 0 0)).setCell ⟨w.heap.size, 4, none⟩ (.int .i64 0)).setCell ⟨w.heap.size, 5, none⟩ (.int .i64 0)).cell? ⟨w.heap.size, 0, none⟩ = some (.int .i64 0) := (cs (.inr (by decide))).trans ((cs (.inr (by decide))).trans ((cs (.inr (by decide))).trans ((cs (.inr (by decide))).trans ((cs (.inr (by decide))).trans (cset (r0))))))
        have q1 : ((((((w3.setCell ⟨w.heap.size, 0, none⟩ (.int .i64 0)).setCell ⟨w.heap.size, 1, none⟩ (.slice none 0 0)).setCell ⟨w.heap.size, 2, none⟩ (.map none)).setCell ⟨w.heap.size, 3, none⟩ (.slice none 0 0)).setCell ⟨w.heap.size, 4, none⟩ (.int .i64 0)).setCell ⟨w.heap.size, 5, none⟩ (.int .i64 0)).cell? ⟨w.heap.size, 1, none⟩ = some (.slice none 0 0) := (cs (.inr (by decide))).trans ((cs (.inr (by decide))).trans ((cs (.inr (by decide))).trans ((cs (.inr (by decide))).trans (cset ((cs (.inr (by decide))).trans (r1))))))
        have q2 : ((((((w3.setCell ⟨w.heap.size, 0, none⟩ (.int .i64 0)).setCell ⟨w.heap.size, 1, none⟩ (.slice none 0 0)).setCell ⟨w.heap.size, 2, none⟩ (.map none)).setCell ⟨w.heap.size, 3, none⟩ (.slice none 0 0)).setCell ⟨w.heap.size, 4, none⟩ (.int .i64 0)).setCell ⟨w.heap.size, 5, none⟩ (.int .i64 0)).cell? ⟨w.heap.size, 2, none⟩ = some (.map none) := (cs (.inr (by decide))).trans ((cs (.inr (by decide))).trans ((cs (.inr (by decide))).trans (cset ((cs (.inr (by decide))).trans ((cs (.inr (by decide))).trans (r2))))))
        have q3 : ((((((w3.setCell ⟨w.heap.size, 0, none⟩ (.int .i64 0)).setCell ⟨w.heap.size, 1, none⟩ (.slice none 0 0)).setCell ⟨w.heap.size, 2, none⟩ (.map none)).setCell ⟨w.heap.size, 3, none⟩ (.slice none 0 0)).setCell ⟨w.heap.size, 4, none⟩ (.int .i64 0)).setCell ⟨w.heap.size, 5, none⟩ (.int .i64 0)).cell? ⟨w.heap.size, 3, none⟩ = some (.slice none 0 0) := (cs (.inr (by decide))).trans ((cs (.inr (by decide))).trans (cset ((cs (.inr (by decide))).trans ((cs (.inr (by decide))).trans ((cs (.inr (by decide))).trans (r3))))))
        have q4 : ((((((w3.setCell ⟨w.heap.size, 0, none⟩ (.int .i64 0)).setCell ⟨w.heap.size, 1, none⟩ (.slice none 0 0)).setCell ⟨w.heap.size, 2, none⟩ (.map none)).setCell ⟨w.heap.size, 3, none⟩ (.slice none 0 0)).setCell ⟨w.heap.size, 4, none⟩ (.int .i64 0)).setCell ⟨w.heap.size, 5, none⟩ (.int .i64 0)).cell? ⟨w.heap.size, 4, none⟩ = some (.int .i64 0) := (cs (.inr (by decide))).trans (cset ((cs (.inr (by decide))).trans ((cs (.inr (by decide))).trans ((cs (.inr (by decide))).trans ((cs (.inr (by decide))).trans (r4))))))
        have q5 : ((((((w3.setCell ⟨w.heap.size, 0, none⟩ (.int .i64 0)).setCell ⟨w.heap.size, 1, none⟩ (.slice none 0 0)).setCell ⟨w.heap.size, 2, none⟩ (.map none)).setCell ⟨w.heap.size, 3, none⟩ (.slice none 0 0)).setCell ⟨w.heap.size, 4, none⟩ (.int .i64 0)).setCell ⟨w.heap.size, 5, none⟩ (.int .i64 0)).cell? ⟨w.heap.size, 5, none⟩ = some (.int .i64 0) := cset ((cs (.inr (by decide))).trans ((cs (.inr (by decide))).trans ((cs (.inr (by decide))).trans ((cs (.inr (by decide))).trans ((cs (.inr (by decide))).trans (r5))))))
        generalize ((((((w3.setCell ⟨w.heap.size, 0, none⟩ (.int .i64 0)).setCell ⟨w.heap.size, 1, none⟩ (.slice none 0 0)).setCell ⟨w.heap.size, 2, none⟩ (.map none)).setCell ⟨w.heap.size, 3, none⟩ (.slice none 0 0)).setCell ⟨w.heap.size, 4, none⟩ (.int .i64 0)).setCell ⟨w.heap.size, 5, none⟩ (.int .i64 0)) = w4 at *
        refine bodyPost_ret (v := .agg #[.int .i64 0, .slice none 0 0, .map none, .slice none 0 0, .int .i64 0, .int .i64 0]) ?_ rfl ⟨rfl, hb4⟩
        simp [results, Yba.results20, go_sem, q0, q1, q2, q3, q4, q5, Result.andThen]
set_option maxRecDepth 100000 in
set_option maxHeartbeats 1000000 in
theorem index_one (g : Nat) (w : World) (h : w.cell? ⟨g, 0, none⟩ = some (.int .u64 1)) : Calls Yba.prog 29 #[.slice (some ⟨g, 0, none⟩) 1 1, .int .u64 1] w fun e w' => e = .returned (.int .i64 0) ∧ w = w' := by
  go_enter Yba.func29, Yba.ntmps29
  go_wp2
  go_loopw [8] (fun si wr => si = .int .i64 0 ∧ w = wr) (fun _ _ => 0)
  case atStart => exact ⟨rfl, rfl⟩
  case round =>
    obtain ⟨rfl, rfl⟩ := hrel
    go_wp2
    go_ret
    exact ⟨rfl, rfl⟩
set_option maxRecDepth 100000 in
set_option maxHeartbeats 1000000 in
theorem contains_one (g : Nat) (w : World) (h : w.cell? ⟨g, 0, none⟩ = some (.int .u64 1)) : Calls Yba.prog 18 #[.slice (some ⟨g, 0, none⟩) 1 1, .int .u64 1] w fun e w' => e = .returned (.bool true) ∧ w = w' := by
  go_enter Yba.func18, Yba.ntmps18
  go_wp2_with (go_at_call 29; refine (index_one g _ h).mono ?_; rintro e w1 ⟨rfl, rfl⟩)
  go_ret
  exact ⟨rfl, rfl⟩
end Go.Proofs.Ybulkauni.lawS2296ATells
