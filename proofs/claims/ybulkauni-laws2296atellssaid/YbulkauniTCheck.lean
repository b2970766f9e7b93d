import Derived.Test.YbulkauniTTellB
namespace Go.Proofs.Ybulkauni.lawS2296ATells
open Go.ChangeShapes Go.WideShapes Go.ChangeAt Go.RowKit Go.Maps
open Go.Proofs.Ybulkauni.lawS2296CSendTaken (RowIs clone_any below_drewN bcell)
/-- The placements i+10 at i. -/
def PRow (w : World) (a : Option Addr) (n : Nat) : Prop := ∀ k, k < n → ∃ b, a = some ⟨b, 0, none⟩ ∧ b < w.heap.size ∧ w.cell? ⟨b, k * 2, none⟩ = some (.int .u64 ((k : Int) + 10)) ∧ w.cell? ⟨b, k * 2 + 1, none⟩ = some (.int .i64 (k : Int))
/-- The hand-backs i+20. -/
def QRow (w : World) (a : Option Addr) (n : Nat) : Prop := ∀ k, k < n → ∃ b, a = some ⟨b, 0, none⟩ ∧ b < w.heap.size ∧ w.cell? ⟨b, k, none⟩ = some (.int .u64 ((k : Int) + 20))
theorem PRow.keep {w w' : World} {a : Option Addr} {n : Nat} (h : PRow w a n) (hs : w.heap.size ≤ w'.heap.size) (hb : ∀ g, sb a = some g → g < w.heap.size → w'.heap[g]? = w.heap[g]?) : PRow w' a n := by
  intro k hk
  obtain ⟨b, rfl, h1, h2, h3⟩ := h k hk
  have e := hb b rfl h1
  exact ⟨b, rfl, Nat.lt_of_lt_of_le h1 hs, (World.cell?_of_block (w := w) e).trans h2, (World.cell?_of_block (w := w) e).trans h3⟩
theorem QRow.keep {w w' : World} {a : Option Addr} {n : Nat} (h : QRow w a n) (hs : w.heap.size ≤ w'.heap.size) (hb : ∀ g, sb a = some g → g < w.heap.size → w'.heap[g]? = w.heap[g]?) : QRow w' a n := by
  intro k hk
  obtain ⟨b, rfl, h1, h2⟩ := h k hk
  have e := hb b rfl h1
  exact ⟨b, rfl, Nat.lt_of_lt_of_le h1 hs, (World.cell?_of_block (w := w) e).trans h2⟩
set_option maxRecDepth 100000 in
set_option maxHeartbeats 2000000 in
theorem check_p (r1 r2 x1 x2 x3 : Int) (pa : Option Addr) (np pc nr : Nat) (w : World) (hnp : np ≤ 1000) (hP : PRow w pa np) (oo : Int) (hoo : oo = if x2 = x1 then 0 else x2) :
    Calls Yba.prog 10 #[pm r1 r2 oo x3 (.slice pa np pc) (.slice none 0 0), .agg #[.int .u64 r1, .int .u64 r2], .agg #[.int .u64 x1, .int .u64 x2, .int .u64 x3, .int .i64 (np : Int), .int .i64 (nr : Int)], .bool true] w fun e w' => e = .returned (.bool true) ∧ Below w.heap.size w w' := by
  have HP : Hid _ := hP
  clear hP
  have t1 := ta71_71
  unfold pm
  by_cases hx : x2 = x1
  · rw [if_pos hx] at hoo
    subst hx hoo
    go_enter Yba.func10, Yba.ntmps10
    go_wp2
    go_loopw [12] (fun si wr => ∃ k : Nat, k ≤ np ∧ si = .int .i64 k ∧ wr.cell? ⟨w.heap.size + 1, 3, none⟩ = some (.int .i64 (np : Int)) ∧ wr.cell? ⟨w.heap.size + 1 + 1, 4, none⟩ = some (.slice pa np pc) ∧ Below w.heap.size w wr) (fun si _ => np - (intOf si).toNat)
    case atStart => exact ⟨0, Nat.zero_le _, rfl, by go_simp, by go_simp, (((Below.refl _ _).alloc (Nat.le_refl _) _).alloc (by simp) _).alloc (by simp; omega) _⟩
    case round =>
      obtain ⟨k, hk, rfl, hc1, hc2, hnx⟩ := hrel
      by_cases hlt : k < np
      · obtain ⟨b, rfl, hb, q1, q2⟩ := HP.out k hlt
        have q1' := (hnx.cell (p := ⟨b, k * 2, none⟩) hb).trans q1
        have q2' := (hnx.cell (p := ⟨b, k * 2 + 1, none⟩) hb).trans q2
        have hb' : b < wr.heap.size := Nat.lt_of_lt_of_le hb hnx.size
        clear q1 q2 hb
        go_wp2
        go_roundw
        case rel => exact ⟨k + 1, by omega, by go_num, hc1, hc2, hnx⟩
        case measure => simp [intOf]; omega
      · obtain rfl : np = k := by omega
        go_wp2
        go_ret
        exact ⟨rfl, hnx⟩
  · rw [if_neg hx] at hoo
    subst hoo
    go_enter Yba.func10, Yba.ntmps10
    go_wp2
    go_loopw [12] (fun si wr => ∃ k : Nat, k ≤ np ∧ si = .int .i64 k ∧ wr.cell? ⟨w.heap.size + 1, 3, none⟩ = some (.int .i64 (np : Int)) ∧ wr.cell? ⟨w.heap.size + 1 + 1, 4, none⟩ = some (.slice pa np pc) ∧ Below w.heap.size w wr) (fun si _ => np - (intOf si).toNat)
    case atStart => exact ⟨0, Nat.zero_le _, rfl, by go_simp, by go_simp, (((Below.refl _ _).alloc (Nat.le_refl _) _).alloc (by simp) _).alloc (by simp; omega) _⟩
    case round =>
      obtain ⟨k, hk, rfl, hc1, hc2, hnx⟩ := hrel
      by_cases hlt : k < np
      · obtain ⟨b, rfl, hb, q1, q2⟩ := HP.out k hlt
        have q1' := (hnx.cell (p := ⟨b, k * 2, none⟩) hb).trans q1
        have q2' := (hnx.cell (p := ⟨b, k * 2 + 1, none⟩) hb).trans q2
        have hb' : b < wr.heap.size := Nat.lt_of_lt_of_le hb hnx.size
        clear q1 q2 hb
        go_wp2
        go_roundw
        case rel => exact ⟨k + 1, by omega, by go_num, hc1, hc2, hnx⟩
        case measure => simp [intOf]; omega
      · obtain rfl : np = k := by omega
        go_wp2
        go_ret
        exact ⟨rfl, hnx⟩
set_option maxRecDepth 100000 in
set_option maxHeartbeats 2000000 in
theorem check_r (r1 r2 x1 x2 x3 : Int) (pa : Option Addr) (np pc nr : Nat) (w : World) (hnr : nr ≤ 1000) (hP : QRow w pa nr) (oo : Int) (hoo : oo = if x2 = x1 then 0 else x2) :
    Calls Yba.prog 10 #[pm r1 r2 oo x3 (.slice none 0 0) (.slice pa nr pc), .agg #[.int .u64 r1, .int .u64 r2], .agg #[.int .u64 x1, .int .u64 x2, .int .u64 x3, .int .i64 (np : Int), .int .i64 (nr : Int)], .bool false] w fun e w' => e = .returned (.bool true) ∧ Below w.heap.size w w' := by
  have HP : Hid _ := hP
  clear hP
  have t1 := ta71_71
  unfold pm
  by_cases hx : x2 = x1
  · rw [if_pos hx] at hoo
    subst hx hoo
    go_enter Yba.func10, Yba.ntmps10
    go_wp2
    go_loopw [13] (fun si wr => ∃ k : Nat, k ≤ nr ∧ si = .int .i64 k ∧ wr.cell? ⟨w.heap.size + 1, 4, none⟩ = some (.int .i64 (nr : Int)) ∧ wr.cell? ⟨w.heap.size + 1 + 1, 5, none⟩ = some (.slice pa nr pc) ∧ Below w.heap.size w wr) (fun si _ => nr - (intOf si).toNat)
    case atStart => exact ⟨0, Nat.zero_le _, rfl, by go_simp, by go_simp, (((Below.refl _ _).alloc (Nat.le_refl _) _).alloc (by simp) _).alloc (by simp; omega) _⟩
    case round =>
      obtain ⟨k, hk, rfl, hc1, hc2, hnx⟩ := hrel
      by_cases hlt : k < nr
      · obtain ⟨b, rfl, hb, q1⟩ := HP.out k hlt
        have q1' := (hnx.cell (p := ⟨b, k, none⟩) hb).trans q1
        have hb' : b < wr.heap.size := Nat.lt_of_lt_of_le hb hnx.size
        clear q1 hb
        go_wp2
        go_roundw
        case rel => exact ⟨k + 1, by omega, by go_num, hc1, hc2, hnx⟩
        case measure => simp [intOf]; omega
      · obtain rfl : nr = k := by omega
        go_wp2
        go_ret
        exact ⟨rfl, hnx⟩
  · rw [if_neg hx] at hoo
    subst hoo
    go_enter Yba.func10, Yba.ntmps10
    go_wp2
    go_loopw [13] (fun si wr => ∃ k : Nat, k ≤ nr ∧ si = .int .i64 k ∧ wr.cell? ⟨w.heap.size + 1, 4, none⟩ = some (.int .i64 (nr : Int)) ∧ wr.cell? ⟨w.heap.size + 1 + 1, 5, none⟩ = some (.slice pa nr pc) ∧ Below w.heap.size w wr) (fun si _ => nr - (intOf si).toNat)
    case atStart => exact ⟨0, Nat.zero_le _, rfl, by go_simp, by go_simp, (((Below.refl _ _).alloc (Nat.le_refl _) _).alloc (by simp) _).alloc (by simp; omega) _⟩
    case round =>
      obtain ⟨k, hk, rfl, hc1, hc2, hnx⟩ := hrel
      by_cases hlt : k < nr
      · obtain ⟨b, rfl, hb, q1⟩ := HP.out k hlt
        have q1' := (hnx.cell (p := ⟨b, k, none⟩) hb).trans q1
        have hb' : b < wr.heap.size := Nat.lt_of_lt_of_le hb hnx.size
        clear q1 hb
        go_wp2
        go_roundw
        case rel => exact ⟨k + 1, by omega, by go_num, hc1, hc2, hnx⟩
        case measure => simp [intOf]; omega
      · obtain rfl : nr = k := by omega
        go_wp2
        go_ret
        exact ⟨rfl, hnx⟩
end Go.Proofs.Ybulkauni.lawS2296ATells
