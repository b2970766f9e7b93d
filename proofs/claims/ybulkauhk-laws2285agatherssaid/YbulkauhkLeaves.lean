import Derived.Test.YbulkauhkBits
import Derived.WalkKit
import Derived.ProofKit
import Derived.OpenShut
import Derived.Deep.QuietTactic
import Derived.BigQuiet
import Derived.WalkSpells
import Derived.WalkLawsBesides
import Derived.Below
namespace Go.Proofs.Ybulkauhk
open Go.ChangeShapes Go.WideShapes Go.ChangeAt Go.RowKit

/-! ### The plain functions -/
/-- The pair p, brought below n, is (x, y). -/
def hit (n x y : Nat) (p : Nat × Nat) : Bool := p.1 % n == x && p.2 % n == y
def inVis (n : Nat) (vis : List (Nat × Nat)) (x y : Nat) : Bool := vis.any (hit n x y)
/-- The last of the first k pairs that is (x, y), by its place; -1 where there is none. -/
def refTo (n : Nat) (tp : List (Nat × Nat)) (x y : Nat) : Nat → Int
  | 0 => -1
  | k + 1 => if hit n x y (tp.getD k (0, 0)) then (k : Int) else refTo n tp x y k
def refV (use : Bool) (n : Nat) (tp : List (Nat × Nat)) (x y : Nat) : Int := if use then refTo n tp x y tp.length else -1

/-- What is known of a slice of pairs that came in. -/
def PairsOk (w : World) (a : Option Addr) (len : Nat) (vis : List (Nat × Nat)) : Prop :=
  vis.length = len ∧ ∀ k, k < len → ∃ b off, a = some ⟨b, off, none⟩ ∧ b < w.heap.size ∧ w.cell? ⟨b, off + k * 2, none⟩ = some (.int .u8 ((vis.getD k (0, 0)).1 : Int)) ∧ w.cell? ⟨b, off + k * 2 + 1, none⟩ = some (.int .u8 ((vis.getD k (0, 0)).2 : Int)) ∧ (vis.getD k (0, 0)).1 < 256 ∧ (vis.getD k (0, 0)).2 < 256
theorem bcell {W w1 : World} (hb : Below W.heap.size W w1) : (∀ b o, b < W.heap.size → w1.cell? ⟨b, o, none⟩ = W.cell? ⟨b, o, none⟩) ∧ (∀ b o, b < W.heap.size → w1.frozen? ⟨b, o, none⟩ = W.frozen? ⟨b, o, none⟩) :=
  ⟨fun b o h => hb.cell (p := ⟨b, o, none⟩) h, fun b o h => hb.frozen (p := ⟨b, o, none⟩) h⟩
theorem PairsOk.below {w w' : World} {a : Option Addr} {len : Nat} {vis : List (Nat × Nat)} (h : PairsOk w a len vis) (hb : Below w.heap.size w w') : PairsOk w' a len vis :=
  ⟨h.1, fun k hk => by
    obtain ⟨b, off, ha, hlt, h1, h2, h3⟩ := h.2 k hk
    exact ⟨b, off, ha, Nat.lt_of_lt_of_le hlt hb.size, ((bcell hb).1 _ _ hlt).trans h1, ((bcell hb).1 _ _ hlt).trans h2, h3⟩⟩
theorem any_take (n x y : Nat) (vis : List (Nat × Nat)) (k : Nat) (hk : k < vis.length) : (vis.take (k + 1)).any (hit n x y) = ((vis.take k).any (hit n x y) || hit n x y (vis.getD k (0, 0))) := by
  rw [List.take_succ_eq_append_getElem hk, List.any_append]
  simp [List.getD_eq_getElem?_getD, hk]
theorem any_of_take (n x y : Nat) (vis : List (Nat × Nat)) (k : Nat) (hk : k < vis.length) (h : hit n x y (vis.getD k (0, 0)) = true) : inVis n vis x y = true := by
  unfold inVis
  rw [List.any_eq_true]
  refine ⟨vis.getD k (0, 0), ?_, h⟩
  rw [List.getD_eq_getElem?_getD, List.getElem?_eq_getElem hk]
  simp
theorem ret_bool {a b : Bool} (h : a = b) : Ending.returned (.bool a) = .returned (.bool b) := by rw [h]
theorem int_hit (A n x : Nat) : (((A : Int) % (n : Int)) == (x : Int)) = (A % n == x) := by
  rw [Bool.eq_iff_iff]; simp; omega
set_option maxHeartbeats 800000 in
theorem in_any (a : Option Addr) (len cap n x y : Nat) (vis : List (Nat × Nat)) (w : World) (hlen : len ≤ 1024) (hn : 0 < n) (hn2 : n < 130) (hA : PairsOk w a len vis) :
    Calls Yba.prog 7 #[.slice a len cap, .int .i64 n, .int .i64 x, .int .i64 y] w fun e w' => e = .returned (.bool (inVis n vis x y)) ∧ Below w.heap.size w w' := by
  have HA : Hid _ := hA
  clear hA
  go_enter Yba.func7, Yba.ntmps7
  go_wp2
  go_loopw [13] (fun si wr => ∃ k : Nat, k ≤ len ∧ si = .int .i64 k ∧ Hid ((vis.take k).any (hit n x y) = false) ∧ Below w.heap.size w wr) (fun si _ => len - (intOf si).toNat)
  case atStart => exact ⟨0, Nat.zero_le _, rfl, rfl, Below.refl _ _⟩
  case round =>
    obtain ⟨k, hk, rfl, hno, hnx⟩ := hrel
    by_cases hlt : k < len
    · obtain ⟨b, off, rfl, hb, hc1, hc2, hb1, hb2⟩ := HA.out.2 k hlt
      have hl := HA.out.1
      have hc1' := (hnx.cell (p := ⟨b, off + k * 2, none⟩) hb).trans hc1
      have hc2' := (hnx.cell (p := ⟨b, off + k * 2 + 1, none⟩) hb).trans hc2
      clear hc1 hc2
      have Hst : Hid _ := any_take n x y vis k (by omega)
      have Hyes : Hid _ := any_of_take n x y vis k (by omega)
      have Hl : Hid _ := hl
      clear hl
      have Hp : Hid (hit n x y (vis.getD k (0, 0)) = ((vis.getD k (0, 0)).1 % n == x && (vis.getD k (0, 0)).2 % n == y)) := rfl
      generalize (vis.getD k (0, 0)).1 = A at *
      generalize (vis.getD k (0, 0)).2 = B at *
      have e1 := int_hit A n x
      have e2 := int_hit B n y
      cases h1 : (A % n == x)
      · rw [h1] at e1
        go_wp2
        go_roundw
        case rel => exact ⟨k + 1, by omega, by go_num, by show _ = _; rw [Hst.out, Hp.out, hno.out, h1]; rfl, hnx.alloc hnx.size _⟩
        case measure => simp [intOf]; omega
      · rw [h1] at e1
        cases h2 : (B % n == y)
        · rw [h2] at e2
          go_wp2
          go_roundw
          case rel => exact ⟨k + 1, by omega, by go_num, by show _ = _; rw [Hst.out, Hp.out, hno.out, h2]; simp, hnx.alloc hnx.size _⟩
          case measure => simp [intOf]; omega
        · rw [h2] at e2
          have Hy : Hid _ := Hyes.out (by rw [Hp.out, h1, h2]; rfl)
          go_wp2
          go_ret
          exact ⟨ret_bool Hy.out.symm, hnx.alloc hnx.size _⟩
    · have Hf : Hid (inVis n vis x y = false) := by
        have := hno.out
        rw [List.take_of_length_le (by rw [HA.out.1]; omega)] at this
        exact this
      go_wp2
      go_ret
      exact ⟨ret_bool Hf.out.symm, hnx⟩
theorem refTo_yes (n x y k : Nat) (tp : List (Nat × Nat)) (h : hit n x y (tp.getD k (0, 0)) = true) : refTo n tp x y (k + 1) = (k : Int) := by rw [refTo, if_pos h]
theorem refTo_no (n x y k : Nat) (tp : List (Nat × Nat)) (h : hit n x y (tp.getD k (0, 0)) = false) : refTo n tp x y (k + 1) = refTo n tp x y k := by rw [refTo, if_neg (by rw [h]; simp)]
theorem refTo_range (n x y : Nat) (tp : List (Nat × Nat)) : ∀ k, -1 ≤ refTo n tp x y k ∧ refTo n tp x y k < (k : Int)
  | 0 => by simp [refTo]
  | k + 1 => by
    have := refTo_range n x y tp k
    rw [refTo]
    split <;> omega
theorem ret_i32 {a b : Int} (h : a = b) : Ending.returned (.int .i32 a) = .returned (.int .i32 b) := by rw [h]
set_option maxHeartbeats 800000 in
theorem aref_any (use : Bool) (a : Option Addr) (len cap n x y : Nat) (tp : List (Nat × Nat)) (w : World) (hlen : len ≤ 1024) (hn : 0 < n) (hn2 : n < 130) (hA : PairsOk w a len tp) :
    Calls Yba.prog 8 #[.bool use, .slice a len cap, .int .i64 n, .int .i64 x, .int .i64 y] w fun e w' => e = .returned (.int .i32 (refV use n tp x y)) ∧ Below w.heap.size w w' := by
  have HA : Hid _ := hA
  clear hA
  cases use
  · go_enter Yba.func8, Yba.ntmps8
    go_wp2
    go_ret
    exact ⟨rfl, Below.refl _ _⟩
  go_enter Yba.func8, Yba.ntmps8
  go_wp2
  go_loopw [11, 18] (fun r si wr => ∃ k : Nat, k ≤ len ∧ si = .int .i64 k ∧ r = .int .i32 (refTo n tp x y k) ∧ Below w.heap.size w wr) (fun _ si _ => len - (intOf si).toNat)
  case atStart => exact ⟨0, Nat.zero_le _, rfl, rfl, Below.refl _ _⟩
  case round =>
    obtain ⟨k, hk, rfl, rfl, hnx⟩ := hrel
    by_cases hlt : k < len
    · obtain ⟨b, off, rfl, hb, hc1, hc2, hb1, hb2⟩ := HA.out.2 k hlt
      have hc1' := (hnx.cell (p := ⟨b, off + k * 2, none⟩) hb).trans hc1
      have hc2' := (hnx.cell (p := ⟨b, off + k * 2 + 1, none⟩) hb).trans hc2
      clear hc1 hc2
      have Hyes : Hid _ := refTo_yes n x y k tp
      have Hno : Hid _ := refTo_no n x y k tp
      have Hp : Hid (hit n x y (tp.getD k (0, 0)) = ((tp.getD k (0, 0)).1 % n == x && (tp.getD k (0, 0)).2 % n == y)) := rfl
      generalize (tp.getD k (0, 0)).1 = A at *
      generalize (tp.getD k (0, 0)).2 = B at *
      have e1 := int_hit A n x
      have e2 := int_hit B n y
      cases h1 : (A % n == x)
      · rw [h1] at e1
        have Hr : Hid _ := Hno.out (by rw [Hp.out, h1]; rfl)
        go_wp2
        go_roundw
        case rel => exact ⟨k + 1, by omega, by go_num, by rw [Hr.out], hnx.alloc hnx.size _⟩
        case measure => simp [intOf]; omega
      · rw [h1] at e1
        cases h2 : (B % n == y)
        · rw [h2] at e2
          have Hr : Hid _ := Hno.out (by rw [Hp.out, h2]; simp)
          go_wp2
          go_roundw
          case rel => exact ⟨k + 1, by omega, by go_num, by rw [Hr.out], hnx.alloc hnx.size _⟩
          case measure => simp [intOf]; omega
        · rw [h2] at e2
          have Hr : Hid _ := Hyes.out (by rw [Hp.out, h1, h2]; rfl)
          go_wp2
          go_roundw
          case rel => exact ⟨k + 1, by omega, by go_num, by rw [Hr.out], hnx.alloc hnx.size _⟩
          case measure => simp [intOf]; omega
    · obtain rfl : k = len := by omega
      go_wp2
      go_ret
      exact ⟨ret_i32 (by rw [refV, if_pos rfl, HA.out.1]), hnx⟩
set_option maxHeartbeats 400000 in
theorem all_any (y : Nat) (v : Value) (w : World) (hc : w.cell? ⟨y, 2, none⟩ = some v) (hf : w.frozen? ⟨y, 2, none⟩ = false) :
    Calls Yba.prog 12 #[.pointer (some ⟨y, 0, none⟩)] w fun e w' => e = .returned (.tuple #[]) ∧ w' = w.setCell ⟨y, 2, none⟩ (.bool true) := by
  go_enter Yba.func12, Yba.ntmps12
  go_wp2
  go_end0
  exact ⟨rfl, rfl⟩
set_option maxHeartbeats 400000 in
theorem has_any (g a W m : Nat) (w : World) (hm : m < 18446744073709551616) (ha : a < 130) (hlt : a / 64 < W) (hc : w.cell? ⟨g, a / 64, none⟩ = some (.int .u64 m)) :
    Calls Yba.prog 10 #[.slice (some ⟨g, 0, none⟩) W W, .int .i64 a] w fun e w' => e = .returned (.bool (m.testBit (a % 64))) ∧ ∃ q, w.drewN q = w' := by
  have H : Hid _ := has_bit m (a % 64) hm (Nat.mod_lt _ (by omega))
  clear hm
  go_enter Yba.func10, Yba.ntmps10
  go_wp2
  go_quiet (fail)
  go_wp2
  go_ret
  exact ⟨ret_bool H.out, _, rfl⟩
end Go.Proofs.Ybulkauhk
